import JvmDerived
import JvmDerived.Pilot.@@N@@Statement
import JvmDerived.Pilot.@@N@@Code
set_option linter.unusedVariables false
set_option linter.unusedSimpArgs false
namespace Jvm.Pilot.@@N@@
open Jvm Jvm.ClassFile Sem Op Lib Jvm.Free Jvm.Stand Jvm.LawKit Jvm.RoadKit Bundle Jvm.Pilot.@@N@@.Jvm.D
/-! the walk in continuation style: 'Fin': from F on the run comes to an end that answers Q -/
section Own
variable {p : Program} {l : Launch} {e : Env} {R : Room} {s : State} {m : MethodId} {args : Array Value} {below : List Frame} {meth : Method} {c : Code} {T : State} {locs : List Loc} {cells slots : Nat}
def OFin (p : Program) (e : Env) (below : List Frame) (Q : Outcome → State → Prop) (F : State) : Prop := ∃ s₂ o, Steps p.tables e below F s₂ ∧ s₂.status = .running ∧ Ended s₂ below o ∧ Q o s₂
def ORet (Q : Option Value → Heap → List Loc → Prop) (s : State) (C S : Nat) (o : Outcome) (U' : State) : Prop := ∃ v L, o = .returned v ∧ Q v U'.heap L ∧ FrameEnd s o U' L C S
theorem OFin.go {Q : Outcome → State → Prop} {F F' : State} (st : ∀ t, Steps p.tables e below F' t → Steps p.tables e below F t) (h : OFin p e below Q F') : OFin p e below Q F := by
  obtain ⟨s2, o, h1, r⟩ := h; exact ⟨s2, o, st _ h1, r⟩
theorem OFin.tr {Q : Outcome → State → Prop} {F F' : State} (st : Steps p.tables e below F F') (h : OFin p e below Q F') : OFin p e below Q F := by
  obtain ⟨s2, o, h1, r⟩ := h; exact ⟨s2, o, st.trans h1, r⟩
variable {Q : Option Value → Heap → List Loc → Prop} {C S : Nat}
theorem finZ (X : Stand p l e R s m args below meth c T locs cells slots) (hx : p.tables.exec = Jvm.exec) (hlocks : meth.locks = false) {t : FieldType} (hret : meth.sig.returnType = some t) (ht : t = .boolean ∨ t = .byte ∨ t = .char ∨ t = .short) {pc : Nat} (hd : decode c.code pc = .ok (.ireturn, 1)) {z z' : Int32} (hz : nar t z = z') (hc : cells ≤ C) (hs : slots ≤ S) {Ls : Array Slot} {rest : List Value} (hQ : Q (some (.int z')) T.heap locs) : OFin p e below (ORet Q s C S) (T.setTop (mkF m pc Ls (.int z :: rest))) := by
  subst hz
  obtain ⟨fs, hr, hrun, hended, hW, hsame⟩ := X.leave (v := some (.int (nar t z))) (fun h => by rw [hret] at h; cases h)
  exact ⟨_, _, retN X hx (t := t) hret ht hd hr, hrun, hended, _, _, rfl, hQ, ⟨_, rfl⟩, hW, hsame.mono hc hs⟩
theorem finI (X : Stand p l e R s m args below meth c T locs cells slots) (hx : p.tables.exec = Jvm.exec) (hlocks : meth.locks = false) (hret : meth.sig.returnType = some .int) {pc : Nat} (hd : decode c.code pc = .ok (.ireturn, 1)) {z : Int32} (hc : cells ≤ C) (hs : slots ≤ S) {Ls : Array Slot} {rest : List Value} (hQ : Q (some (.int z)) T.heap locs) : OFin p e below (ORet Q s C S) (T.setTop (mkF m pc Ls (.int z :: rest))) := by
  obtain ⟨fs, hr, hrun, hended, hW, hsame⟩ := X.leave (v := some (.int z)) (fun h => by rw [hret] at h; cases h)
  exact ⟨_, _, retOut X hx hret rfl (Or.inl ⟨rfl, Or.inl rfl, _, rfl⟩) hd hr, hrun, hended, _, _, rfl, hQ, ⟨_, rfl⟩, hW, hsame.mono hc hs⟩
theorem finJ (X : Stand p l e R s m args below meth c T locs cells slots) (hx : p.tables.exec = Jvm.exec) (hlocks : meth.locks = false) (hret : meth.sig.returnType = some .long) {pc : Nat} (hd : decode c.code pc = .ok (.lreturn, 1)) {z : Int64} (hc : cells ≤ C) (hs : slots ≤ S) {Ls : Array Slot} {rest : List Value} (hQ : Q (some (.long z)) T.heap locs) : OFin p e below (ORet Q s C S) (T.setTop (mkF m pc Ls (.long z :: rest))) := by
  obtain ⟨fs, hr, hrun, hended, hW, hsame⟩ := X.leave (v := some (.long z)) (fun h => by rw [hret] at h; cases h)
  exact ⟨_, _, retOut X hx hret rfl (Or.inr (Or.inl ⟨rfl, rfl, _, rfl⟩)) hd hr, hrun, hended, _, _, rfl, hQ, ⟨_, rfl⟩, hW, hsame.mono hc hs⟩
theorem finA (X : Stand p l e R s m args below meth c T locs cells slots) (hx : p.tables.exec = Jvm.exec) (hlocks : meth.locks = false) {w : Value} (hw : w.isRef = true) {t : FieldType} (hret : meth.sig.returnType = some t) (ht : t.isReference = true) {pc : Nat} (hd : decode c.code pc = .ok (.areturn, 1)) (hc : cells ≤ C) (hs : slots ≤ S) {Ls : Array Slot} {rest : List Value} (hQ : Q (some w) T.heap locs) : OFin p e below (ORet Q s C S) (T.setTop (mkF m pc Ls (w :: rest))) := by
  obtain ⟨fs, hr, hrun, hended, hW, hsame⟩ := X.leave (v := some w) (fun h => by rw [hret] at h; cases h)
  refine ⟨_, _, retOut X hx hret ?_ (Or.inr (Or.inr (Or.inr (Or.inr ⟨rfl, ht, hw⟩)))) hd hr, hrun, hended, _, _, rfl, hQ, ⟨_, rfl⟩, hW, hsame.mono hc hs⟩
  cases w <;> first | (simp [Value.isRef] at hw; done) | (cases t <;> first | rfl | (simp [FieldType.isReference] at ht; done))
theorem finV (X : Stand p l e R s m args below meth c T locs cells slots) (hx : p.tables.exec = Jvm.exec) (hlocks : meth.locks = false) (hret : meth.sig.returnType = none) {pc : Nat} (hd : decode c.code pc = .ok (.return_, 1)) (hc : cells ≤ C) (hs : slots ≤ S) {Ls : Array Slot} (hQ : Q none T.heap locs) : OFin p e below (ORet Q s C S) (T.setTop (mkF m pc Ls [])) := by
  obtain ⟨fs, hr, hrun, hended, hW, hsame⟩ := X.leave (v := none) (fun _ => rfl)
  exact ⟨_, _, X.returnOut hx hret hd hr, hrun, hended, _, _, rfl, hQ, ⟨_, rfl⟩, hW, hsame.mono hc hs⟩
end Own
/-- a boolean as the int that bears it -/
def bi (P : Prop) [Decidable P] : Int32 := if P then 1 else 0
theorem bi_t {P : Prop} [Decidable P] (h : P) : bi P = 1 := if_pos h
theorem bi_f {P : Prop} [Decidable P] (h : ¬ P) : bi P = 0 := if_neg h
theorem nar_bi (P : Prop) [Decidable P] : nar .boolean (bi P) = bi P := by unfold bi; split <;> rfl
theorem bi_iff {P Q : Prop} [Decidable P] [Decidable Q] : bi P = bi Q ↔ (P ↔ Q) := by
  unfold bi; by_cases h : P <;> by_cases k : Q <;> simp [h, k]
theorem bi0 {P : Prop} [Decidable P] : (bi P = 0) ↔ ¬ P := by unfold bi; by_cases h : P <;> simp [h]
theorem bi_ne_t {P : Prop} [Decidable P] (h : P) : ifCond.holds .ne (bi P) = true := by rw [bi_t h]; rfl
theorem bi_ne_f {P : Prop} [Decidable P] (h : ¬ P) : ifCond.holds .ne (bi P) = false := by rw [bi_f h]; rfl
theorem bi_eq_t {P : Prop} [Decidable P] (h : ¬ P) : ifCond.holds .eq (bi P) = true := by rw [bi_f h]; rfl
theorem bi_eq_f {P : Prop} [Decidable P] (h : P) : ifCond.holds .eq (bi P) = false := by rw [bi_t h]; rfl
theorem lc_lt_t {x y : Int64} (h : x < y) : ifCond.holds .lt (lcmpW x y) = true := (if0 _ _).trans (tlt ((lw_lt x y).mpr h)).1
theorem lc_lt_f {x y : Int64} (h : ¬ x < y) : ifCond.holds .lt (lcmpW x y) = false := (if0 _ _).trans (flt fun q => h ((lw_lt x y).mp q)).1
theorem lc_ge_t {x y : Int64} (h : ¬ x < y) : ifCond.holds .ge (lcmpW x y) = true := (if0 _ _).trans (flt fun q => h ((lw_lt x y).mp q)).2.1
theorem lc_ge_f {x y : Int64} (h : x < y) : ifCond.holds .ge (lcmpW x y) = false := (if0 _ _).trans (tlt ((lw_lt x y).mpr h)).2.1
theorem lc_gt_t {x y : Int64} (h : y < x) : ifCond.holds .gt (lcmpW x y) = true := (if0 _ _).trans (tlt ((lw_gt x y).mpr h)).2.2.1
theorem lc_gt_f {x y : Int64} (h : ¬ y < x) : ifCond.holds .gt (lcmpW x y) = false := (if0 _ _).trans (flt fun q => h ((lw_gt x y).mp q)).2.2.1
theorem lc_le_t {x y : Int64} (h : ¬ y < x) : ifCond.holds .le (lcmpW x y) = true := (if0 _ _).trans (flt fun q => h ((lw_gt x y).mp q)).2.2.2
theorem lc_le_f {x y : Int64} (h : y < x) : ifCond.holds .le (lcmpW x y) = false := (if0 _ _).trans (tlt ((lw_gt x y).mpr h)).2.2.2
theorem lc_eq_t {x y : Int64} (h : x = y) : ifCond.holds .eq (lcmpW x y) = true := (if0 _ _).trans (teq ((lw_eq x y).mpr h)).1
theorem lc_eq_f {x y : Int64} (h : ¬ x = y) : ifCond.holds .eq (lcmpW x y) = false := (if0 _ _).trans (feq fun q => h ((lw_eq x y).mp q)).1
theorem lc_ne_t {x y : Int64} (h : ¬ x = y) : ifCond.holds .ne (lcmpW x y) = true := (if0 _ _).trans (feq fun q => h ((lw_eq x y).mp q)).2
theorem lc_ne_f {x y : Int64} (h : x = y) : ifCond.holds .ne (lcmpW x y) = false := (if0 _ _).trans (teq ((lw_eq x y).mpr h)).2
/-! arrays by their places -/
def upd {α : Type} (f : Nat → α) (i : Nat) (v : α) : Nat → α := fun j => if j = i then v else f j
theorem upd_hit {α : Type} (f : Nat → α) (i : Nat) (v : α) : upd f i v i = v := if_pos rfl
theorem upd_miss {α : Type} {f : Nat → α} {i j : Nat} {v : α} (h : j ≠ i) : upd f i v j = f j := if_neg h
def Ara (Z : State) (h : Heap) (a : Addr) (ty : FieldType) (n : Nat) (f : Nat → Value) : Prop := ∃ c : Cell, Arr Z h a c ty ∧ c.slots.size = n ∧ n < 2 ^ 31 ∧ ∀ i, i < n → c.slots[i]? = some (f i)
section Ara
variable {Z : State} {h h' : Heap} {a b : Addr} {ty : FieldType} {n : Nat} {f f' : Nat → Value} {sl : Nat} {v : Value} {ws : List Addr}
theorem Ara.lt (F : Ara Z h a ty n f) : a < h.size := by obtain ⟨c, A, -⟩ := F; exact A.lt
theorem Ara.ext (F : Ara Z h a ty n f) (E : Ext h h') : Ara Z h' a ty n f := by obtain ⟨c, A, r⟩ := F; exact ⟨c, A.ext E, r⟩
theorem Ara.other (F : Ara Z h b ty n f) (W : Wr h h' a sl v) (q : b ≠ a) : Ara Z h' b ty n f := by obtain ⟨c, A, r⟩ := F; exact ⟨c, A.other W q, r⟩
theorem Ara.keep (F : Ara Z h a ty n f) (K : Keep h h' ws) (q : a ∉ ws) : Ara Z h' a ty n f := by obtain ⟨c, A, r⟩ := F; exact ⟨c, ⟨K.2.1 a c A.1 q, A.2⟩, r⟩
theorem Ara.set (F : Ara Z h a ty n f) (W : Wr h h' a sl v) : Ara Z h' a ty n (upd f sl v) := by
  obtain ⟨c, A, r1, r2, r3⟩ := F
  refine ⟨_, A.same W, by rw [sz_set]; exact r1, r2, fun i hi => ?_⟩
  by_cases q : i = sl
  · subst q; rw [upd_hit]; simp [Cell.setSlot, r1, hi]
  · rw [upd_miss q]; simp only [Cell.setSlot]; rw [Array.getElem?_setIfInBounds_ne (fun z => q z.symm)]; exact r3 i hi
theorem Ara.new {k : ClassId} {z : Int32} (A : Arr Z h a (newA k ty z) ty) (hn : z.toNatClampNeg = n) : Ara Z h a ty n (fun _ => defaultValue ty) := by
  refine ⟨_, A, by rw [sz_new]; exact hn, ?_, fun i hi => ?_⟩
  · rw [← hn]; have := z.toInt_lt; unfold Int32.toNatClampNeg; omega
  · rw [← hn] at hi; simp [newA, hi]
theorem Ara.congr (F : Ara Z h a ty n f) (q : ∀ i, i < n → f i = f' i) : Ara Z h a ty n f' := by obtain ⟨c, A, r1, r2, r3⟩ := F; exact ⟨c, A, r1, r2, fun i hi => by rw [← q i hi]; exact r3 i hi⟩
variable {p : Program} {l : Launch} {e : Env} {R : Room} {s : State} {m : MethodId} {args : Array Value} {below : List Frame} {meth : Method} {c : Code} {T : State} {locs : List Loc} {cells slots : Nat} {j : Int32} {i : Nat} {rest : List Value} {g : JFrame} {t : State} {x : Value}
theorem hin_of {cl : Cell} (S : cl.slots.size = n) (hj0 : ¬ j < 0) (hj : j.toNatClampNeg = i) (hi : i < n) : ¬ (j < 0 ∨ cl.slots.size ≤ j.toNatClampNeg) := by rw [S, hj]; exact fun q => q.elim hj0 (Nat.not_le.mpr hi)
theorem rdB (X : Stand p l e R s m args below meth c T locs cells slots) (hx : p.tables.exec = Jvm.exec) (hZ : Z.Warmed39 s.vm) (eT : T.heap = h) (F : Ara Z h a .byte n f) (hj0 : ¬ j < 0) (hj : j.toNatClampNeg = i) (hi : i < n) (hv : f i = x) (hg : g.method = m) (hs : g.stack = .int j :: .ref a :: rest) (hd : decode c.code g.pc = .ok (.baload, 1))
    (k : Steps p.tables e below (T.setTop { g with pc := g.pc + 1, stack := x :: rest }) t) : Steps p.tables e below (T.setTop g) t := by
  obtain ⟨cl, A, r1, r2, r3⟩ := F
  exact X.baloadBytes hx (by rw [eT]; exact A.1) (State.isArrayOf_alike hZ.alike A.2.1) A.2.2 (hin_of r1 hj0 hj hi) (by rw [hj, r3 i hi, hv]) hg hs hd _ k
theorem rdI (X : Stand p l e R s m args below meth c T locs cells slots) (hx : p.tables.exec = Jvm.exec) (hZ : Z.Warmed39 s.vm) (eT : T.heap = h) (F : Ara Z h a .int n f) (hj0 : ¬ j < 0) (hj : j.toNatClampNeg = i) (hi : i < n) (hv : f i = x) (hg : g.method = m) (hs : g.stack = .int j :: .ref a :: rest) (hd : decode c.code g.pc = .ok (.iaload, 1))
    (k : Steps p.tables e below (T.setTop { g with pc := g.pc + 1, stack := x :: rest }) t) : Steps p.tables e below (T.setTop g) t := by
  obtain ⟨cl, A, r1, r2, r3⟩ := F
  exact X.iaload hx (by rw [eT]; exact A.1) (State.isArrayOf_alike hZ.alike A.2.1) A.2.2 (hin_of r1 hj0 hj hi) (by rw [hj, r3 i hi, hv]) hg hs hd _ k
theorem rdJ (X : Stand p l e R s m args below meth c T locs cells slots) (hx : p.tables.exec = Jvm.exec) (hZ : Z.Warmed39 s.vm) (eT : T.heap = h) (F : Ara Z h a .long n f) (hj0 : ¬ j < 0) (hj : j.toNatClampNeg = i) (hi : i < n) (hv : f i = x) (hg : g.method = m) (hs : g.stack = .int j :: .ref a :: rest) (hd : decode c.code g.pc = .ok (.laload, 1))
    (k : Steps p.tables e below (T.setTop { g with pc := g.pc + 1, stack := x :: rest }) t) : Steps p.tables e below (T.setTop g) t := by
  obtain ⟨cl, A, r1, r2, r3⟩ := F
  exact X.laload hx (by rw [eT]; exact A.1) (State.isArrayOf_alike hZ.alike A.2.1) A.2.2 (hin_of r1 hj0 hj hi) (by rw [hj, r3 i hi, hv]) hg hs hd _ k
theorem rdR (X : Stand p l e R s m args below meth c T locs cells slots) (hx : p.tables.exec = Jvm.exec) (hZ : Z.Warmed39 s.vm) (eT : T.heap = h) (F : Ara Z h a ty n f) (hty : ty.isReference = true) (hj0 : ¬ j < 0) (hj : j.toNatClampNeg = i) (hi : i < n) (hv : f i = x) (hg : g.method = m) (hs : g.stack = .int j :: .ref a :: rest) (hd : decode c.code g.pc = .ok (.aaload, 1))
    (k : Steps p.tables e below (T.setTop { g with pc := g.pc + 1, stack := x :: rest }) t) : Steps p.tables e below (T.setTop g) t := by
  obtain ⟨cl, A, r1, r2, r3⟩ := F
  exact X.aaload hx (by rw [eT]; exact A.1) (State.isArrayOf_alike hZ.alike A.2.1) hty A.2.2 (hin_of r1 hj0 hj hi) (by rw [hj, r3 i hi, hv]) hg hs hd _ k
theorem alen (X : Stand p l e R s m args below meth c T locs cells slots) (hx : p.tables.exec = Jvm.exec) (hZ : Z.Warmed39 s.vm) (eT : T.heap = h) (F : Ara Z h a ty n f) {z : Int32} (hz : n.toInt32 = z) (hg : g.method = m) (hs : g.stack = .ref a :: rest) (hd : decode c.code g.pc = .ok (.arraylength, 1))
    (k : Steps p.tables e below (T.setTop { g with pc := g.pc + 1, stack := .int z :: rest }) t) : Steps p.tables e below (T.setTop g) t := by
  obtain ⟨cl, A, r1, r2, r3⟩ := F
  refine X.arraylength hx (by rw [eT]; exact A.1) (State.isArrayOf_alike hZ.alike A.2.1) hg hs hd _ ?_
  rw [r1, hz]; exact k
theorem wrB (X : Stand p l e R s m args below meth c T locs cells slots) (hx : p.tables.exec = Jvm.exec) (hZ : Z.Warmed39 s.vm) (eT : T.heap = h) (F : Ara Z h a .byte n f) {y : Int32} (hj0 : ¬ j < 0) (hj : j.toNatClampNeg = i) (hi : i < n) {y' : Int32} (hy : nar .byte y = y') (hg : g.method = m) (hs : g.stack = .int y :: .int j :: .ref a :: rest) (hd : decode c.code g.pc = .ok (.bastore, 1)) :
    ∃ T' h', Stand p l e R s m args below meth c T' (locs ++ [⟨a, i⟩]) cells slots ∧ T'.heap = h' ∧ Wr h h' a i (.int y') ∧ ∀ target, Steps p.tables e below (T'.setTop { g with pc := g.pc + 1, stack := rest }) target → Steps p.tables e below (T.setTop g) target := by
  subst hj hy
  obtain ⟨cl, A, r1, r2, r3⟩ := F
  exact stB X hx hZ eT A (hin_of r1 hj0 rfl hi) hg hs hd
theorem wrI (X : Stand p l e R s m args below meth c T locs cells slots) (hx : p.tables.exec = Jvm.exec) (hZ : Z.Warmed39 s.vm) (eT : T.heap = h) (F : Ara Z h a .int n f) {y : Int32} (hj0 : ¬ j < 0) (hj : j.toNatClampNeg = i) (hi : i < n) (hg : g.method = m) (hs : g.stack = .int y :: .int j :: .ref a :: rest) (hd : decode c.code g.pc = .ok (.iastore, 1)) :
    ∃ T' h', Stand p l e R s m args below meth c T' (locs ++ [⟨a, i⟩]) cells slots ∧ T'.heap = h' ∧ Wr h h' a i (.int y) ∧ ∀ target, Steps p.tables e below (T'.setTop { g with pc := g.pc + 1, stack := rest }) target → Steps p.tables e below (T.setTop g) target := by
  subst hj
  obtain ⟨cl, A, r1, r2, r3⟩ := F
  exact stI X hx hZ eT A (hin_of r1 hj0 rfl hi) hg hs hd
theorem wrJ (X : Stand p l e R s m args below meth c T locs cells slots) (hx : p.tables.exec = Jvm.exec) (hZ : Z.Warmed39 s.vm) (eT : T.heap = h) (F : Ara Z h a .long n f) {y : Int64} (hj0 : ¬ j < 0) (hj : j.toNatClampNeg = i) (hi : i < n) (hg : g.method = m) (hs : g.stack = .long y :: .int j :: .ref a :: rest) (hd : decode c.code g.pc = .ok (.lastore, 1)) :
    ∃ T' h', Stand p l e R s m args below meth c T' (locs ++ [⟨a, i⟩]) cells slots ∧ T'.heap = h' ∧ Wr h h' a i (.long y) ∧ ∀ target, Steps p.tables e below (T'.setTop { g with pc := g.pc + 1, stack := rest }) target → Steps p.tables e below (T.setTop g) target := by
  subst hj
  obtain ⟨cl, A, r1, r2, r3⟩ := F
  exact stJ X hx hZ eT A (hin_of r1 hj0 rfl hi) hg hs hd
end Ara
theorem wr_le {h h' : Heap} {a : Addr} {sl : Nat} {v : Value} (W : Wr h h' a sl v) : h.size ≤ h'.size := Nat.le_of_eq W.size.symm
theorem up_lt {k a b : Nat} (h : a < k) (g : b = k) : a ≠ b := by omega
theorem nar_b (y : Int32) : nar .byte y.toInt8.toInt32 = y.toInt8.toInt32 := by show y.toInt8.toInt32.toInt8.toInt32 = _; rw [Int8.toInt8_toInt32]
theorem Sta_keep {Z : State} {h h' : Heap} {C n d : String} {v : Value} {ws : List Addr} {k : Nat} (F : Sta Z h C n d v) (K : Keep h h' ws) (q : ∀ x ∈ ws, Z.heap.size ≤ x) (hst : ∀ cf kk i f st, Z.fieldFound? C n d = some (cf, kk, i, f) → kk.statics = some st → st < Z.heap.size) : Sta Z h' C n d v := by
  obtain ⟨cf, i, kk, f, st, cell, h1, h2, h3, h4, h5, r⟩ := F
  exact ⟨cf, i, kk, f, st, cell, h1, h2, h3, h4, K.2.1 _ _ h5 (fun z => absurd (hst _ _ _ _ _ h1 h4) (Nat.not_lt.mpr (q _ z))), r⟩
theorem eqv_r {Z : State} {args : Array Value} {X F : Term} {idx : List Nat} {y : Addr} (hF : F.eval args Z none idx Z = some (.ref y)) (h : (Cond.eq X F).value args Z none Z idx = some true) : X.eval args Z none idx Z = some (.ref y) := by
  cases hx : X.eval args Z none idx Z with
  | none => simp [Cond.value, hF, hx] at h
  | some x => cases x <;> simp [Cond.value, hF, hx] at h ⊢ <;> exact h
/-! calls by a contract, in one piece -/
section Calls
variable {p : Program} {l : Launch} {e : Env} {R : Room} {s : State} {m : MethodId} {args : Array Value} {below : List Frame} {meth : Method} {c : Code} {T : State} {locs : List Loc} {cells slots : Nat} {Z : State} {a0 : Array Value} {h : Heap}
abbrev Meets1 (l : Launch) (y : MethodName) (bytes : ByteArray) (maxL : Nat) (ret : Option FieldType) (rm : Room) (Z : State) (as' : Array Value) (h : Heap) (Q : Option Value → Heap → List Loc → Prop) : Prop :=
  MetFree l y (head1 [Cond.code y bytes maxL ret] rm) (fun a U => a = as' ∧ Z.Warmed39 U.vm ∧ U.heap = h) (fun _ _ _ _ _ => True) (fun _ U o U' => ∃ v L, o = .returned v ∧ Q v U'.heap L ∧ FrameEnd U o U' L rm.cells rm.slots)
theorem callQ (X : Stand p l e R s m args below meth c T locs cells slots) (hx : p.tables.exec = Jvm.exec) (hZ : Z.Warmed39 s.vm) {own : String} {index : Nat} {y : MethodName} {bytes : ByteArray} {maxL : Nat} {ret : Option FieldType} (hown : s.vm.findClass own = some m.cls)
    (w1 : (Cond.methodLink own index y).before a0 Z = true) (w2 : (Cond.static y).before a0 Z = true) (w3 : (Cond.initialized y.cls).before a0 Z = true) (w4 : (Cond.code y bytes maxL ret).before a0 Z = true) (hy : y.cls ≠ "java/lang/invoke/MethodHandle" ∧ y.cls ≠ "java/lang/invoke/VarHandle")
    {rm : Room} {argsL rest : List Value} {Q : Option Value → Heap → List Loc → Prop} (hM : Meets1 l y bytes maxL ret rm Z argsL.toArray h Q) {W : Nat} (hf : rm.frames + 1 ≤ R.frames) (hl : W + (maxL + 11) + rm.locals ≤ R.locals) (eT : T.heap = h)
    {g : JFrame} (hg : g.method = m) (hsize : g.locals.size = c.maxLocals) (hlen : ∀ sig, parseMethodDescriptor y.desc = some sig → argsL.length = sig.parameters.length) (hstack : g.stack = argsL.reverse ++ rest) (hW : 2 * g.monitorRoom + (rest.map fun v => v.category).sum ≤ W) (hd : decode c.code g.pc = .ok (.invokestatic index, 3)) (hc : cells + rm.cells ≤ R.cells) (hs : slots + rm.slots ≤ R.slots) :
    ∃ v T' L, Stand p l e R s m args below meth c T' (locs ++ L) (cells + rm.cells) (slots + rm.slots) ∧ Q v T'.heap L ∧ ∀ target, Steps p.tables e below (T'.setTop { g with pc := g.pc + 3, stack := v.toList ++ rest }) target → Steps p.tables e below (T.setTop g) target := by
  obtain ⟨v, _, ⟨T', L', k', n'⟩, -, X', ⟨L, hQ, hl', hk', hn'⟩, st⟩ := Jvm.LawKit.callS X hx hown (mvT hZ w1) (mvT hZ w2) (mvT hZ w3) (mvT hZ w4) hy (backOf (W := W) hM hZ w4 w3 hf hl) hg hsize hlen hstack hW hd (fun _ _ => ⟨rfl, eT, hc, hs⟩)
  dsimp only [Pt.U, Pt.locs, Pt.cells, Pt.slots] at X' hl' hk' hn' st hQ
  subst hl' hk' hn'
  exact ⟨v, T', L, X', hQ, st⟩
theorem specQ (X : Stand p l e R s m args below meth c T locs cells slots) (hx : p.tables.exec = Jvm.exec) (hZ : Z.Warmed39 s.vm) {own : String} {index : Nat} {y : MethodName} {bytes : ByteArray} {maxL : Nat} (hy1 : y.name = "<init>") (hown : s.vm.findClass own = some m.cls)
    (w1 : (Cond.methodLink own index y).before a0 Z = true) (w2 : (Cond.instanceMethod y).before a0 Z = true) (w3 : (Cond.initialized y.cls).before a0 Z = true) (w4 : (Cond.code y bytes maxL none).before a0 Z = true) (hy : y.cls ≠ "java/lang/invoke/MethodHandle" ∧ y.cls ≠ "java/lang/invoke/VarHandle")
    {rm : Room} {a : Addr} {argsL rest : List Value} {Q : Option Value → Heap → List Loc → Prop} (hM : Meets1 l y bytes maxL none rm Z (.ref a :: argsL).toArray h Q) {W : Nat} (hf : rm.frames + 1 ≤ R.frames) (hl : W + (maxL + 11) + rm.locals ≤ R.locals) (eT : T.heap = h)
    {g : JFrame} (hg : g.method = m) (hsize : g.locals.size = c.maxLocals) (hlen : ∀ sig, parseMethodDescriptor y.desc = some sig → argsL.length = sig.parameters.length) (hstack : g.stack = argsL.reverse ++ .ref a :: rest) (hW : 2 * g.monitorRoom + (rest.map fun v => v.category).sum ≤ W) (hd : decode c.code g.pc = .ok (.invokespecial index, 3)) (hc : cells + rm.cells ≤ R.cells) (hs : slots + rm.slots ≤ R.slots) :
    ∃ v T' L, Stand p l e R s m args below meth c T' (locs ++ L) (cells + rm.cells) (slots + rm.slots) ∧ Q v T'.heap L ∧ ∀ target, Steps p.tables e below (T'.setTop { g with pc := g.pc + 3, stack := v.toList ++ rest }) target → Steps p.tables e below (T.setTop g) target := by
  obtain ⟨v, _, ⟨T', L', k', n'⟩, -, X', ⟨L, hQ, hl', hk', hn'⟩, st⟩ := X.specialBack hx hy1 hown (mvT hZ w1) (mvT hZ w2) (mvT hZ w4) hy (backOf (W := W) hM hZ w4 w3 hf hl) hg hsize (Steps.refl _) hlen hstack hW hd (fun _ _ => ⟨rfl, eT, hc, hs⟩)
  dsimp only [Pt.U, Pt.locs, Pt.cells, Pt.slots] at X' hl' hk' hn' st hQ
  subst hl' hk' hn'
  exact ⟨v, T', L, X', hQ, fun t k => st.trans k⟩
theorem virtQ (X : Stand p l e R s m args below meth c T locs cells slots) (hx : p.tables.exec = Jvm.exec) (hZ : Z.Warmed39 s.vm) {own : String} {index : Nat} {y : MethodName} {bytes : ByteArray} {maxL : Nat} {ret : Option FieldType} (hown : s.vm.findClass own = some m.cls)
    (w1 : (Cond.methodLink own index y).before a0 Z = true) (w2 : (Cond.instanceMethod y).before a0 Z = true) (w3 : (Cond.initialized y.cls).before a0 Z = true) (w4 : (Cond.code y bytes maxL ret).before a0 Z = true) (w5 : (Cond.declares y).before a0 Z = true) (w6 : (Cond.selects y.cls y y).before a0 Z = true) (hy : y.cls ≠ "java/lang/invoke/MethodHandle" ∧ y.cls ≠ "java/lang/invoke/VarHandle")
    {rm : Room} {a : Addr} (E : Exa Z h a y.cls) {argsL rest : List Value} {Q : Option Value → Heap → List Loc → Prop} (hM : Meets1 l y bytes maxL ret rm Z (.ref a :: argsL).toArray h Q) {W : Nat} (hf : rm.frames + 1 ≤ R.frames) (hl : W + (maxL + 11) + rm.locals ≤ R.locals) (eT : T.heap = h)
    {g : JFrame} (hg : g.method = m) (hsize : g.locals.size = c.maxLocals) (hlen : ∀ sig, parseMethodDescriptor y.desc = some sig → argsL.length = sig.parameters.length) (hstack : g.stack = argsL.reverse ++ .ref a :: rest) (hW : 2 * g.monitorRoom + (rest.map fun v => v.category).sum ≤ W) (hd : decode c.code g.pc = .ok (.invokevirtual index, 3)) (hc : cells + rm.cells ≤ R.cells) (hs : slots + rm.slots ≤ R.slots) :
    ∃ v T' L, Stand p l e R s m args below meth c T' (locs ++ L) (cells + rm.cells) (slots + rm.slots) ∧ Q v T'.heap L ∧ ∀ target, Steps p.tables e below (T'.setTop { g with pc := g.pc + 3, stack := v.toList ++ rest }) target → Steps p.tables e below (T.setTop g) target := by
  obtain ⟨cq, kq, qa, qb, qc⟩ := isOf hZ eT E
  obtain ⟨v, _, ⟨T', L', k', n'⟩, -, X', ⟨L, hQ, hl', hk', hn'⟩, st⟩ := X.virtualBack hx (y := y) (z := y) hown (mvT hZ w1) (mvT hZ w5) (notFace_of_selects (args := #[]) (mvT hZ w6)) (mvT hZ w6) (mvT hZ w2) hy (backOf (W := W) hM hZ w4 w3 hf hl) qa qc hg hsize (Steps.refl _) hlen hstack hW hd (fun _ _ => ⟨rfl, eT, hc, hs⟩)
  dsimp only [Pt.U, Pt.locs, Pt.cells, Pt.slots] at X' hl' hk' hn' st hQ
  subst hl' hk' hn'
  exact ⟨v, T', L, X', hQ, fun t k => st.trans k⟩
theorem privQ (X : Stand p l e R s m args below meth c T locs cells slots) (hx : p.tables.exec = Jvm.exec) (hZ : Z.Warmed39 s.vm) {own : String} {index : Nat} {y : MethodName} {bytes : ByteArray} {maxL : Nat} {ret : Option FieldType} (hown : s.vm.findClass own = some m.cls)
    (w1 : (Cond.methodLink own index y).before a0 Z = true) (w2 : (Cond.instanceMethod y).before a0 Z = true) (w3 : (Cond.initialized y.cls).before a0 Z = true) (w4 : (Cond.code y bytes maxL ret).before a0 Z = true) (w5 : (Cond.privateMethod y).before a0 Z = true) (w6 : (Cond.selects y.cls y y).before a0 Z = true) (hy : y.cls ≠ "java/lang/invoke/MethodHandle" ∧ y.cls ≠ "java/lang/invoke/VarHandle")
    {rm : Room} {a : Addr} {C : String} (E : Exa Z h a C) {argsL rest : List Value} {Q : Option Value → Heap → List Loc → Prop} (hM : Meets1 l y bytes maxL ret rm Z (.ref a :: argsL).toArray h Q) {W : Nat} (hf : rm.frames + 1 ≤ R.frames) (hl : W + (maxL + 11) + rm.locals ≤ R.locals) (eT : T.heap = h)
    {g : JFrame} (hg : g.method = m) (hsize : g.locals.size = c.maxLocals) (hlen : ∀ sig, parseMethodDescriptor y.desc = some sig → argsL.length = sig.parameters.length) (hstack : g.stack = argsL.reverse ++ .ref a :: rest) (hW : 2 * g.monitorRoom + (rest.map fun v => v.category).sum ≤ W) (hd : decode c.code g.pc = .ok (.invokevirtual index, 3)) (hc : cells + rm.cells ≤ R.cells) (hs : slots + rm.slots ≤ R.slots) :
    ∃ v T' L, Stand p l e R s m args below meth c T' (locs ++ L) (cells + rm.cells) (slots + rm.slots) ∧ Q v T'.heap L ∧ ∀ target, Steps p.tables e below (T'.setTop { g with pc := g.pc + 3, stack := v.toList ++ rest }) target → Steps p.tables e below (T.setTop g) target := by
  obtain ⟨cq, q1, q2⟩ := E.cell
  obtain ⟨v, _, ⟨T', L', k', n'⟩, -, X', ⟨L, hQ, hl', hk', hn'⟩, st⟩ := X.privateBack hx (y := y) hown (mvT hZ w1) (mvT hZ w2) (mvT hZ w6) (Cond.privateMethod_at (mvP hZ w5 (args := #[]))) (mvT hZ w4) hy (backOf (W := W) hM hZ w4 w3 hf hl) hg hsize (Steps.refl _) (a := a) (by rw [eT]; exact q1) q2 hlen hstack hW hd (fun _ _ => ⟨rfl, eT, hc, hs⟩)
  dsimp only [Pt.U, Pt.locs, Pt.cells, Pt.slots] at X' hl' hk' hn' st hQ
  subst hl' hk' hn'
  exact ⟨v, T', L, X', hQ, fun t k => st.trans k⟩
end Calls
theorem d5_0 : decode jdk_35_method_51_code 0 = .ok (.lload_n 0, 1) := by decide +kernel
theorem d5_1 : decode jdk_35_method_51_code 1 = .ok (.iload_n 2, 1) := by decide +kernel
theorem d5_2 : decode jdk_35_method_51_code 2 = .ok (.lshl, 1) := by decide +kernel
theorem d5_3 : decode jdk_35_method_51_code 3 = .ok (.lload_n 0, 1) := by decide +kernel
theorem d5_4 : decode jdk_35_method_51_code 4 = .ok (.iload_n 2, 1) := by decide +kernel
theorem d5_5 : decode jdk_35_method_51_code 5 = .ok (.ineg, 1) := by decide +kernel
theorem d5_6 : decode jdk_35_method_51_code 6 = .ok (.lushr, 1) := by decide +kernel
theorem d5_7 : decode jdk_35_method_51_code 7 = .ok (.lor, 1) := by decide +kernel
theorem d5_8 : decode jdk_35_method_51_code 8 = .ok (.lreturn, 1) := by decide +kernel
def rot (j0 : Int64) (u2 : Int32) : Int64 := ((j0 <<< (u2 &&& 0x3f).toInt64) ||| ((j0.toUInt64 >>> ((-u2) &&& 0x3f).toInt64.toUInt64).toInt64))
theorem ef_rm5 (m : MethodId) (j0 : Int64) (u2 : Int32) : entryFrame m #[(.long j0), (.int u2)] 3 = mkF m 0 #[.val (.long j0), .second, .val (.int u2)] [] := by first | (simp [entryFrame, mkF, argsToLocals, Value.category]; done) | rfl
theorem pn_0 : plainName "java/lang/Long" = true := by first | (simp [plainName, overriddenIn]; done) | decide +kernel
def Q_rm5 (Z : State) (j0 : Int64) (u2 : Int32)  (h0 : Heap) (n0 : Nat) (v : Option Value) (h : Heap) (L : List Loc) : Prop := v = some (Value.long (rot j0 u2)) ∧ Fr n0 L ∧ h = h0
set_option maxRecDepth 65536 in
set_option maxHeartbeats 40000000 in
theorem rm5 (l : Launch) (Z : State) (a0 : Array Value) (hw : ∀ d ∈ tables_1, d.before a0 Z = true) (ws : List Jvm.Cond) (j0 : Int64) (u2 : Int32)  (h0 : Heap) (n0 : Nat) (Z0 : n0 ≤ h0.size)  :
    MetFree l (⟨"java/lang/Long", "rotateLeft", "(JI)J"⟩ : MethodName) (head1 (Jvm.Cond.code (⟨"java/lang/Long", "rotateLeft", "(JI)J"⟩ : MethodName) jdk_35_method_51_code 3 (some .long) :: ws) ({ frames := 0, cells := 0, slots := 0, locals := 0 } : Room)) (fun a U => a = #[(.long j0), (.int u2)] ∧ Z.Warmed39 U.vm ∧ U.heap = h0) (fun _ _ _ _ _ => True) (fun _ U o U' => ∃ v L, o = .returned v ∧ (Q_rm5 Z j0 u2 h0 n0) v U'.heap L ∧ FrameEnd U o U' L ({ frames := 0, cells := 0, slots := 0, locals := 0 } : Room).cells ({ frames := 0, cells := 0, slots := 0, locals := 0 } : Room).slots) := by
  refine MetFree.of_bodySF (plainFor_of_name pn_0) hisR ?_
  intro p e s m args below meth c s₁ Bd hml0 hP hK
  obtain ⟨rfl, hZ, hh⟩ := hP
  have hx := Bd.exec
  have hby := Bd.bytes
  have hml : c.maxLocals = 3 := hml0
  have hown : s.vm.findClass "java/lang/Long" = some m.cls := findClass_of_methodNamed Bd.named
  have hnm := (name_of_methodNamed Bd.named Bd.method).1
  have X0 : Stand p l e ({ frames := 0, cells := 0, slots := 0, locals := 0 } : Room) s m #[(.long j0), (.int u2)] below meth c s₁ [] 0 0 := Stand.of_body Bd
  have e0 : s₁.heap = h0 := by rw [← hh, Bd.state]; rfl
  have N0 := Fr.nil n0
  show OFin p e below (ORet (Q_rm5 Z j0 u2 h0 n0) s ({ frames := 0, cells := 0, slots := 0, locals := 0 } : Room).cells ({ frames := 0, cells := 0, slots := 0, locals := 0 } : Room).slots) (s₁.setTop (entryFrame m #[(.long j0), (.int u2)] 3))
  refine OFin.go (fun t k => castTop (ef_rm5 m j0 u2) k) ?_
  show OFin p e below (ORet (Q_rm5 Z j0 u2 h0 n0) s ({ frames := 0, cells := 0, slots := 0, locals := 0 } : Room).cells ({ frames := 0, cells := 0, slots := 0, locals := 0 } : Room).slots) (s₁.setTop (mkF m 0 #[.val (.long j0), .second, .val (.int u2)] []))
  have S1 : ∀ t, Steps p.tables e below (s₁.setTop (mkF m 8 #[.val (.long j0), .second, .val (.int u2)] [(.long ((j0 <<< (u2 &&& 0x3f).toInt64) ||| ((j0.toUInt64 >>> ((-u2) &&& 0x3f).toInt64.toUInt64).toInt64)))])) t → Steps p.tables e below (s₁.setTop (mkF m 0 #[.val (.long j0), .second, .val (.int u2)] [])) t := by
    intro t k
    show Steps p.tables e below (s₁.setTop (mkF m 0 #[.val (.long j0), .second, .val (.int u2)] [])) t
    refine XS.lloadN X0.here hx rfl (hb hby d5_0) rfl ?_
    show Steps p.tables e below (s₁.setTop (mkF m 1 #[.val (.long j0), .second, .val (.int u2)] [(.long j0)])) t
    refine XS.iloadN X0.here hx rfl (hb hby d5_1) rfl ?_
    show Steps p.tables e below (s₁.setTop (mkF m 2 #[.val (.long j0), .second, .val (.int u2)] [(.int u2), (.long j0)])) t
    refine XS.lshl X0.here hx rfl (hb hby d5_2) rfl ?_
    show Steps p.tables e below (s₁.setTop (mkF m 3 #[.val (.long j0), .second, .val (.int u2)] [(.long (j0 <<< (u2 &&& 0x3f).toInt64))])) t
    refine XS.lloadN X0.here hx rfl (hb hby d5_3) rfl ?_
    show Steps p.tables e below (s₁.setTop (mkF m 4 #[.val (.long j0), .second, .val (.int u2)] [(.long j0), (.long (j0 <<< (u2 &&& 0x3f).toInt64))])) t
    refine XS.iloadN X0.here hx rfl (hb hby d5_4) rfl ?_
    show Steps p.tables e below (s₁.setTop (mkF m 5 #[.val (.long j0), .second, .val (.int u2)] [(.int u2), (.long j0), (.long (j0 <<< (u2 &&& 0x3f).toInt64))])) t
    refine XS.ineg X0.here hx rfl (hb hby d5_5) rfl ?_
    show Steps p.tables e below (s₁.setTop (mkF m 6 #[.val (.long j0), .second, .val (.int u2)] [(.int (-u2)), (.long j0), (.long (j0 <<< (u2 &&& 0x3f).toInt64))])) t
    refine XS.lushr X0.here hx rfl (hb hby d5_6) rfl ?_
    show Steps p.tables e below (s₁.setTop (mkF m 7 #[.val (.long j0), .second, .val (.int u2)] [(.long ((j0.toUInt64 >>> ((-u2) &&& 0x3f).toInt64.toUInt64).toInt64)), (.long (j0 <<< (u2 &&& 0x3f).toInt64))])) t
    refine XS.lor X0.here hx rfl (hb hby d5_7) rfl ?_
    exact k
  refine OFin.go S1 ?_
  exact finJ X0 hx Bd.notSynchronized Bd.returns (hb hby d5_8) (by decide) (by decide) (⟨congrArg (fun z => some (Value.long z)) (show ((j0 <<< (u2 &&& 0x3f).toInt64) ||| ((j0.toUInt64 >>> ((-u2) &&& 0x3f).toInt64.toUInt64).toInt64)) = ((j0 <<< (u2 &&& 0x3f).toInt64) ||| ((j0.toUInt64 >>> ((-u2) &&& 0x3f).toInt64.toUInt64).toInt64)) by rfl : ((j0 <<< (u2 &&& 0x3f).toInt64) ||| ((j0.toUInt64 >>> ((-u2) &&& 0x3f).toInt64.toUInt64).toInt64)) = (rot j0 u2)), N0, e0⟩)
def nxR (x0 x1 x2 x3 : Int64) : Int64 := ((rot (x0 + x3) (23 : Int32)) + x0)
def nx0 (x0 x1 x2 x3 : Int64) : Int64 := (x0 ^^^ (x3 ^^^ x1))
def nx1 (x0 x1 x2 x3 : Int64) : Int64 := (x1 ^^^ (x2 ^^^ x0))
def nx2 (x0 x1 x2 x3 : Int64) : Int64 := ((x2 ^^^ x0) ^^^ (x1 <<< ((17 : Int32) &&& 0x3f).toInt64))
def nx3 (x0 x1 x2 x3 : Int64) : Int64 := (rot (x3 ^^^ x1) (45 : Int32))
def own4 (x0 x1 x2 x3 : Int64) : Nat → Value := upd (upd (upd (upd (fun _ => defaultValue .long) 0 (.long x0)) 1 (.long x1)) 2 (.long x2)) 3 (.long x3)
theorem ef_rm1 (m : MethodId) (o0 : Addr) (x0 : Int64) (x1 : Int64) (x2 : Int64) (x3 : Int64) : entryFrame m #[(.ref o0), (.long x0), (.long x1), (.long x2), (.long x3)] 9 = mkF m 0 #[.val (.ref o0), .val (.long x0), .second, .val (.long x1), .second, .val (.long x2), .second, .val (.long x3), .second] [] := by first | (simp [entryFrame, mkF, argsToLocals, Value.category]; done) | rfl
theorem pn_1 : plainName "com/example/genomatrix/genomatrix/Xoshiro256PlusPlus" = true := by first | (simp [plainName, overriddenIn]; done) | decide +kernel
def Q_rm1 (Z : State) (o0 : Addr) (x0 : Int64) (x1 : Int64) (x2 : Int64) (x3 : Int64)  (h0 : Heap) (n0 : Nat) (v : Option Value) (h : Heap) (L : List Loc) : Prop := v = none ∧ Fr n0 L ∧ Keep h0 h [o0] ∧ Fld Z h o0 "com/example/genomatrix/genomatrix/Xoshiro256PlusPlus" "s0" "J" (.long x0) ∧ Fld Z h o0 "com/example/genomatrix/genomatrix/Xoshiro256PlusPlus" "s1" "J" (.long x1) ∧ Fld Z h o0 "com/example/genomatrix/genomatrix/Xoshiro256PlusPlus" "s2" "J" (.long x2) ∧ Fld Z h o0 "com/example/genomatrix/genomatrix/Xoshiro256PlusPlus" "s3" "J" (.long x3)
theorem d1_0 : decode prog_95_method_2_code 0 = .ok (.aload_n 0, 1) := by decide +kernel
theorem d1_1 : decode prog_95_method_2_code 1 = .ok (.invokespecial 1, 3) := by decide +kernel
theorem d1_4 : decode prog_95_method_2_code 4 = .ok (.aload_n 0, 1) := by decide +kernel
theorem d1_5 : decode prog_95_method_2_code 5 = .ok (.lload_n 1, 1) := by decide +kernel
theorem d1_6 : decode prog_95_method_2_code 6 = .ok (.putfield 15, 3) := by decide +kernel
theorem d1_9 : decode prog_95_method_2_code 9 = .ok (.aload_n 0, 1) := by decide +kernel
theorem d1_10 : decode prog_95_method_2_code 10 = .ok (.lload_n 3, 1) := by decide +kernel
theorem d1_11 : decode prog_95_method_2_code 11 = .ok (.putfield 21, 3) := by decide +kernel
theorem d1_14 : decode prog_95_method_2_code 14 = .ok (.aload_n 0, 1) := by decide +kernel
theorem d1_15 : decode prog_95_method_2_code 15 = .ok (.lload 5, 2) := by decide +kernel
theorem d1_17 : decode prog_95_method_2_code 17 = .ok (.putfield 26, 3) := by decide +kernel
theorem d1_20 : decode prog_95_method_2_code 20 = .ok (.aload_n 0, 1) := by decide +kernel
theorem d1_21 : decode prog_95_method_2_code 21 = .ok (.lload 7, 2) := by decide +kernel
theorem d1_23 : decode prog_95_method_2_code 23 = .ok (.putfield 31, 3) := by decide +kernel
theorem d1_26 : decode prog_95_method_2_code 26 = .ok (.return_, 1) := by decide +kernel
set_option maxRecDepth 65536 in
set_option maxHeartbeats 40000000 in
theorem rm1 (l : Launch) (Z : State) (a0 : Array Value) (hw : ∀ d ∈ tables_1, d.before a0 Z = true) (ws : List Jvm.Cond) (o0 : Addr) (x0 : Int64) (x1 : Int64) (x2 : Int64) (x3 : Int64)  (h0 : Heap) (n0 : Nat) (Z0 : n0 ≤ h0.size) (E0 : Exa Z h0 o0 "com/example/genomatrix/genomatrix/Xoshiro256PlusPlus") (ge0 : n0 ≤ o0) (Fs0 : Fld Z h0 o0 "com/example/genomatrix/genomatrix/Xoshiro256PlusPlus" "s0" "J" (.long (0 : Int64))) (Fs1 : Fld Z h0 o0 "com/example/genomatrix/genomatrix/Xoshiro256PlusPlus" "s1" "J" (.long (0 : Int64))) (Fs2 : Fld Z h0 o0 "com/example/genomatrix/genomatrix/Xoshiro256PlusPlus" "s2" "J" (.long (0 : Int64))) (Fs3 : Fld Z h0 o0 "com/example/genomatrix/genomatrix/Xoshiro256PlusPlus" "s3" "J" (.long (0 : Int64))) :
    MetFree l (⟨"com/example/genomatrix/genomatrix/Xoshiro256PlusPlus", "<init>", "(JJJJ)V"⟩ : MethodName) (head1 (Jvm.Cond.code (⟨"com/example/genomatrix/genomatrix/Xoshiro256PlusPlus", "<init>", "(JJJJ)V"⟩ : MethodName) prog_95_method_2_code 9 none :: ws) ({ frames := 1, cells := 0, slots := 0, locals := 12 } : Room)) (fun a U => a = #[(.ref o0), (.long x0), (.long x1), (.long x2), (.long x3)] ∧ Z.Warmed39 U.vm ∧ U.heap = h0) (fun _ _ _ _ _ => True) (fun _ U o U' => ∃ v L, o = .returned v ∧ (Q_rm1 Z o0 x0 x1 x2 x3 h0 n0) v U'.heap L ∧ FrameEnd U o U' L ({ frames := 1, cells := 0, slots := 0, locals := 12 } : Room).cells ({ frames := 1, cells := 0, slots := 0, locals := 12 } : Room).slots) := by
  refine MetFree.of_bodySF (plainFor_of_name pn_1) hisR ?_
  intro p e s m args below meth c s₁ Bd hml0 hP hK
  obtain ⟨rfl, hZ, hh⟩ := hP
  have hx := Bd.exec
  have hby := Bd.bytes
  have hml : c.maxLocals = 9 := hml0
  have hown : s.vm.findClass "com/example/genomatrix/genomatrix/Xoshiro256PlusPlus" = some m.cls := findClass_of_methodNamed Bd.named
  have hnm := (name_of_methodNamed Bd.named Bd.method).1
  have X0 : Stand p l e ({ frames := 1, cells := 0, slots := 0, locals := 12 } : Room) s m #[(.ref o0), (.long x0), (.long x1), (.long x2), (.long x3)] below meth c s₁ [] 0 0 := Stand.of_body Bd
  have e0 : s₁.heap = h0 := by rw [← hh, Bd.state]; rfl
  have N0 := Fr.nil n0
  show OFin p e below (ORet (Q_rm1 Z o0 x0 x1 x2 x3 h0 n0) s ({ frames := 1, cells := 0, slots := 0, locals := 12 } : Room).cells ({ frames := 1, cells := 0, slots := 0, locals := 12 } : Room).slots) (s₁.setTop (entryFrame m #[(.ref o0), (.long x0), (.long x1), (.long x2), (.long x3)] 9))
  refine OFin.go (fun t k => castTop (ef_rm1 m o0 x0 x1 x2 x3) k) ?_
  have K0 := Keep.refl h0 [o0]
  show OFin p e below (ORet (Q_rm1 Z o0 x0 x1 x2 x3 h0 n0) s ({ frames := 1, cells := 0, slots := 0, locals := 12 } : Room).cells ({ frames := 1, cells := 0, slots := 0, locals := 12 } : Room).slots) (s₁.setTop (mkF m 0 #[.val (.ref o0), .val (.long x0), .second, .val (.long x1), .second, .val (.long x2), .second, .val (.long x3), .second] []))
  have S1 : ∀ t, Steps p.tables e below (s₁.setTop (mkF m 1 #[.val (.ref o0), .val (.long x0), .second, .val (.long x1), .second, .val (.long x2), .second, .val (.long x3), .second] [(.ref o0)])) t → Steps p.tables e below (s₁.setTop (mkF m 0 #[.val (.ref o0), .val (.long x0), .second, .val (.long x1), .second, .val (.long x2), .second, .val (.long x3), .second] [])) t := by
    intro t k
    show Steps p.tables e below (s₁.setTop (mkF m 0 #[.val (.ref o0), .val (.long x0), .second, .val (.long x1), .second, .val (.long x2), .second, .val (.long x3), .second] [])) t
    refine XS.aloadN X0.here hx rfl (hb hby d1_0) rfl rfl ?_
    exact k
  refine OFin.go S1 ?_
  obtain ⟨T2, X2, e2, st2⟩ := initO X0 hx hZ hown (hw _ (List.mem_of_getElem? (i := 6) rfl)) (hw _ (List.mem_of_getElem? (i := 7) rfl)) (hw _ (List.mem_of_getElem? (i := 8) rfl)) e0 (g := (mkF m 1 #[.val (.ref o0), .val (.long x0), .second, .val (.long x1), .second, .val (.long x2), .second, .val (.long x3), .second] [(.ref o0)])) rfl (by rw [hml]; rfl) rfl (hb hby d1_1) (by decide) (W := 0) (by show 2 * 0 + _ ≤ _; exact Nat.le_of_eq rfl) (by decide)
  refine OFin.go st2 ?_
  show OFin p e below _ (T2.setTop (mkF m 4 #[.val (.ref o0), .val (.long x0), .second, .val (.long x1), .second, .val (.long x2), .second, .val (.long x3), .second] []))
  have S3 : ∀ t, Steps p.tables e below (T2.setTop (mkF m 6 #[.val (.ref o0), .val (.long x0), .second, .val (.long x1), .second, .val (.long x2), .second, .val (.long x3), .second] [(.long x0), (.ref o0)])) t → Steps p.tables e below (T2.setTop (mkF m 4 #[.val (.ref o0), .val (.long x0), .second, .val (.long x1), .second, .val (.long x2), .second, .val (.long x3), .second] [])) t := by
    intro t k
    show Steps p.tables e below (T2.setTop (mkF m 4 #[.val (.ref o0), .val (.long x0), .second, .val (.long x1), .second, .val (.long x2), .second, .val (.long x3), .second] [])) t
    refine XS.aloadN X2.here hx rfl (hb hby d1_4) rfl rfl ?_
    show Steps p.tables e below (T2.setTop (mkF m 5 #[.val (.ref o0), .val (.long x0), .second, .val (.long x1), .second, .val (.long x2), .second, .val (.long x3), .second] [(.ref o0)])) t
    refine XS.lloadN X2.here hx rfl (hb hby d1_5) rfl ?_
    exact k
  refine OFin.go S3 ?_
  obtain ⟨T4, h4, X4, e4, W4, st4⟩ := putF X2 hx hZ hown (host := "") (Or.inl (hw _ (List.mem_of_getElem? (i := 9) rfl))) Via.refl e2 Fs0 E0 (Or.inl (hw _ (List.mem_of_getElem? (i := 10) rfl))) (hw _ (List.mem_of_getElem? (i := 1) rfl)) (ty := .long) (by decide) rfl rfl (g := (mkF m 6 #[.val (.ref o0), .val (.long x0), .second, .val (.long x1), .second, .val (.long x2), .second, .val (.long x3), .second] [(.long x0), (.ref o0)])) rfl rfl (hb hby d1_6)
  have Fw4 := Fs0.same W4
  have N4 := Fr.snoc X4 N0 ge0
  have Z4 : n0 ≤ h4.size := Nat.le_trans Z0 (wr_le W4)
  have K4 := Keep.wr K0 W4 (Or.inl (List.mem_of_getElem? (i := 0) rfl))
  refine OFin.go st4 ?_
  show OFin p e below _ (T4.setTop (mkF m 9 #[.val (.ref o0), .val (.long x0), .second, .val (.long x1), .second, .val (.long x2), .second, .val (.long x3), .second] []))
  have S5 : ∀ t, Steps p.tables e below (T4.setTop (mkF m 11 #[.val (.ref o0), .val (.long x0), .second, .val (.long x1), .second, .val (.long x2), .second, .val (.long x3), .second] [(.long x1), (.ref o0)])) t → Steps p.tables e below (T4.setTop (mkF m 9 #[.val (.ref o0), .val (.long x0), .second, .val (.long x1), .second, .val (.long x2), .second, .val (.long x3), .second] [])) t := by
    intro t k
    show Steps p.tables e below (T4.setTop (mkF m 9 #[.val (.ref o0), .val (.long x0), .second, .val (.long x1), .second, .val (.long x2), .second, .val (.long x3), .second] [])) t
    refine XS.aloadN X4.here hx rfl (hb hby d1_9) rfl rfl ?_
    show Steps p.tables e below (T4.setTop (mkF m 10 #[.val (.ref o0), .val (.long x0), .second, .val (.long x1), .second, .val (.long x2), .second, .val (.long x3), .second] [(.ref o0)])) t
    refine XS.lloadN X4.here hx rfl (hb hby d1_10) rfl ?_
    exact k
  refine OFin.go S5 ?_
  have F6 := Fs1.other W4 (Or.inr (slot_ne (Or.inl (hw _ (List.mem_of_getElem? (i := 12) rfl))) (Or.inl (hw _ (List.mem_of_getElem? (i := 10) rfl))) (by decide) (t := .long) (t' := .long) (by decide) (by decide)))
  have F7 := E0.wr W4
  obtain ⟨T8, h8, X8, e8, W8, st8⟩ := putF X4 hx hZ hown (host := "") (Or.inl (hw _ (List.mem_of_getElem? (i := 11) rfl))) Via.refl e4 F6 F7 (Or.inl (hw _ (List.mem_of_getElem? (i := 12) rfl))) (hw _ (List.mem_of_getElem? (i := 1) rfl)) (ty := .long) (by decide) rfl rfl (g := (mkF m 11 #[.val (.ref o0), .val (.long x0), .second, .val (.long x1), .second, .val (.long x2), .second, .val (.long x3), .second] [(.long x1), (.ref o0)])) rfl rfl (hb hby d1_11)
  have Fw8 := F6.same W8
  have N8 := Fr.snoc X8 N4 ge0
  have Z8 : n0 ≤ h8.size := Nat.le_trans Z4 (wr_le W8)
  have K8 := Keep.wr K4 W8 (Or.inl (List.mem_of_getElem? (i := 0) rfl))
  refine OFin.go st8 ?_
  show OFin p e below _ (T8.setTop (mkF m 14 #[.val (.ref o0), .val (.long x0), .second, .val (.long x1), .second, .val (.long x2), .second, .val (.long x3), .second] []))
  have S9 : ∀ t, Steps p.tables e below (T8.setTop (mkF m 17 #[.val (.ref o0), .val (.long x0), .second, .val (.long x1), .second, .val (.long x2), .second, .val (.long x3), .second] [(.long x2), (.ref o0)])) t → Steps p.tables e below (T8.setTop (mkF m 14 #[.val (.ref o0), .val (.long x0), .second, .val (.long x1), .second, .val (.long x2), .second, .val (.long x3), .second] [])) t := by
    intro t k
    show Steps p.tables e below (T8.setTop (mkF m 14 #[.val (.ref o0), .val (.long x0), .second, .val (.long x1), .second, .val (.long x2), .second, .val (.long x3), .second] [])) t
    refine XS.aloadN X8.here hx rfl (hb hby d1_14) rfl rfl ?_
    show Steps p.tables e below (T8.setTop (mkF m 15 #[.val (.ref o0), .val (.long x0), .second, .val (.long x1), .second, .val (.long x2), .second, .val (.long x3), .second] [(.ref o0)])) t
    refine XS.lload X8.here hx rfl (hb hby d1_15) rfl ?_
    exact k
  refine OFin.go S9 ?_
  have F10 := Fs2.other W4 (Or.inr (slot_ne (Or.inl (hw _ (List.mem_of_getElem? (i := 14) rfl))) (Or.inl (hw _ (List.mem_of_getElem? (i := 10) rfl))) (by decide) (t := .long) (t' := .long) (by decide) (by decide)))
  have F11 := F10.other W8 (Or.inr (slot_ne (Or.inl (hw _ (List.mem_of_getElem? (i := 14) rfl))) (Or.inl (hw _ (List.mem_of_getElem? (i := 12) rfl))) (by decide) (t := .long) (t' := .long) (by decide) (by decide)))
  have F12 := F7.wr W8
  obtain ⟨T13, h13, X13, e13, W13, st13⟩ := putF X8 hx hZ hown (host := "") (Or.inl (hw _ (List.mem_of_getElem? (i := 13) rfl))) Via.refl e8 F11 F12 (Or.inl (hw _ (List.mem_of_getElem? (i := 14) rfl))) (hw _ (List.mem_of_getElem? (i := 1) rfl)) (ty := .long) (by decide) rfl rfl (g := (mkF m 17 #[.val (.ref o0), .val (.long x0), .second, .val (.long x1), .second, .val (.long x2), .second, .val (.long x3), .second] [(.long x2), (.ref o0)])) rfl rfl (hb hby d1_17)
  have Fw13 := F11.same W13
  have N13 := Fr.snoc X13 N8 ge0
  have Z13 : n0 ≤ h13.size := Nat.le_trans Z8 (wr_le W13)
  have K13 := Keep.wr K8 W13 (Or.inl (List.mem_of_getElem? (i := 0) rfl))
  refine OFin.go st13 ?_
  show OFin p e below _ (T13.setTop (mkF m 20 #[.val (.ref o0), .val (.long x0), .second, .val (.long x1), .second, .val (.long x2), .second, .val (.long x3), .second] []))
  have S14 : ∀ t, Steps p.tables e below (T13.setTop (mkF m 23 #[.val (.ref o0), .val (.long x0), .second, .val (.long x1), .second, .val (.long x2), .second, .val (.long x3), .second] [(.long x3), (.ref o0)])) t → Steps p.tables e below (T13.setTop (mkF m 20 #[.val (.ref o0), .val (.long x0), .second, .val (.long x1), .second, .val (.long x2), .second, .val (.long x3), .second] [])) t := by
    intro t k
    show Steps p.tables e below (T13.setTop (mkF m 20 #[.val (.ref o0), .val (.long x0), .second, .val (.long x1), .second, .val (.long x2), .second, .val (.long x3), .second] [])) t
    refine XS.aloadN X13.here hx rfl (hb hby d1_20) rfl rfl ?_
    show Steps p.tables e below (T13.setTop (mkF m 21 #[.val (.ref o0), .val (.long x0), .second, .val (.long x1), .second, .val (.long x2), .second, .val (.long x3), .second] [(.ref o0)])) t
    refine XS.lload X13.here hx rfl (hb hby d1_21) rfl ?_
    exact k
  refine OFin.go S14 ?_
  have F15 := Fs3.other W4 (Or.inr (slot_ne (Or.inl (hw _ (List.mem_of_getElem? (i := 16) rfl))) (Or.inl (hw _ (List.mem_of_getElem? (i := 10) rfl))) (by decide) (t := .long) (t' := .long) (by decide) (by decide)))
  have F16 := F15.other W8 (Or.inr (slot_ne (Or.inl (hw _ (List.mem_of_getElem? (i := 16) rfl))) (Or.inl (hw _ (List.mem_of_getElem? (i := 12) rfl))) (by decide) (t := .long) (t' := .long) (by decide) (by decide)))
  have F17 := F16.other W13 (Or.inr (slot_ne (Or.inl (hw _ (List.mem_of_getElem? (i := 16) rfl))) (Or.inl (hw _ (List.mem_of_getElem? (i := 14) rfl))) (by decide) (t := .long) (t' := .long) (by decide) (by decide)))
  have F18 := F12.wr W13
  obtain ⟨T19, h19, X19, e19, W19, st19⟩ := putF X13 hx hZ hown (host := "") (Or.inl (hw _ (List.mem_of_getElem? (i := 15) rfl))) Via.refl e13 F17 F18 (Or.inl (hw _ (List.mem_of_getElem? (i := 16) rfl))) (hw _ (List.mem_of_getElem? (i := 1) rfl)) (ty := .long) (by decide) rfl rfl (g := (mkF m 23 #[.val (.ref o0), .val (.long x0), .second, .val (.long x1), .second, .val (.long x2), .second, .val (.long x3), .second] [(.long x3), (.ref o0)])) rfl rfl (hb hby d1_23)
  have Fw19 := F17.same W19
  have N19 := Fr.snoc X19 N13 ge0
  have Z19 : n0 ≤ h19.size := Nat.le_trans Z13 (wr_le W19)
  have K19 := Keep.wr K13 W19 (Or.inl (List.mem_of_getElem? (i := 0) rfl))
  refine OFin.go st19 ?_
  show OFin p e below _ (T19.setTop (mkF m 26 #[.val (.ref o0), .val (.long x0), .second, .val (.long x1), .second, .val (.long x2), .second, .val (.long x3), .second] []))
  have F20 := Fw4.other W8 (Or.inr (slot_ne (Or.inl (hw _ (List.mem_of_getElem? (i := 10) rfl))) (Or.inl (hw _ (List.mem_of_getElem? (i := 12) rfl))) (by decide) (t := .long) (t' := .long) (by decide) (by decide)))
  have F21 := F20.other W13 (Or.inr (slot_ne (Or.inl (hw _ (List.mem_of_getElem? (i := 10) rfl))) (Or.inl (hw _ (List.mem_of_getElem? (i := 14) rfl))) (by decide) (t := .long) (t' := .long) (by decide) (by decide)))
  have F22 := F21.other W19 (Or.inr (slot_ne (Or.inl (hw _ (List.mem_of_getElem? (i := 10) rfl))) (Or.inl (hw _ (List.mem_of_getElem? (i := 16) rfl))) (by decide) (t := .long) (t' := .long) (by decide) (by decide)))
  have F23 := Fw8.other W13 (Or.inr (slot_ne (Or.inl (hw _ (List.mem_of_getElem? (i := 12) rfl))) (Or.inl (hw _ (List.mem_of_getElem? (i := 14) rfl))) (by decide) (t := .long) (t' := .long) (by decide) (by decide)))
  have F24 := F23.other W19 (Or.inr (slot_ne (Or.inl (hw _ (List.mem_of_getElem? (i := 12) rfl))) (Or.inl (hw _ (List.mem_of_getElem? (i := 16) rfl))) (by decide) (t := .long) (t' := .long) (by decide) (by decide)))
  have F25 := Fw13.other W19 (Or.inr (slot_ne (Or.inl (hw _ (List.mem_of_getElem? (i := 14) rfl))) (Or.inl (hw _ (List.mem_of_getElem? (i := 16) rfl))) (by decide) (t := .long) (t' := .long) (by decide) (by decide)))
  exact finV X19 hx Bd.notSynchronized Bd.returns (hb hby d1_26) (by decide) (by decide) (by rw [e19]; exact ⟨rfl, N19, K19, F22, F24, F25, Fw19⟩)
theorem ef_rm3 (m : MethodId) (o0 : Addr) : entryFrame m #[(.ref o0)] 1 = mkF m 0 #[.val (.ref o0)] [] := by first | (simp [entryFrame, mkF, argsToLocals, Value.category]; done) | rfl
def Q_rm3 (Z : State) (o0 : Addr) (x0 x1 x2 x3 : Int64) (h0 : Heap) (n0 : Nat) (v : Option Value) (h : Heap) (L : List Loc) : Prop := ∃ b, v = some (.ref b) ∧ Fr n0 L ∧ Keep h0 h [] ∧ h0.size ≤ b ∧ Ara Z h b .long 4 (own4 x0 x1 x2 x3)
theorem d3_0 : decode prog_95_method_3_code 0 = .ok (.iconst 4, 1) := by decide +kernel
theorem d3_1 : decode prog_95_method_3_code 1 = .ok (.newarray .long, 2) := by decide +kernel
theorem d3_3 : decode prog_95_method_3_code 3 = .ok (.dup, 1) := by decide +kernel
theorem d3_4 : decode prog_95_method_3_code 4 = .ok (.iconst 0, 1) := by decide +kernel
theorem d3_5 : decode prog_95_method_3_code 5 = .ok (.aload_n 0, 1) := by decide +kernel
theorem d3_6 : decode prog_95_method_3_code 6 = .ok (.getfield 15, 3) := by decide +kernel
theorem d3_9 : decode prog_95_method_3_code 9 = .ok (.lastore, 1) := by decide +kernel
theorem d3_10 : decode prog_95_method_3_code 10 = .ok (.dup, 1) := by decide +kernel
theorem d3_11 : decode prog_95_method_3_code 11 = .ok (.iconst 1, 1) := by decide +kernel
theorem d3_12 : decode prog_95_method_3_code 12 = .ok (.aload_n 0, 1) := by decide +kernel
theorem d3_13 : decode prog_95_method_3_code 13 = .ok (.getfield 21, 3) := by decide +kernel
theorem d3_16 : decode prog_95_method_3_code 16 = .ok (.lastore, 1) := by decide +kernel
theorem d3_17 : decode prog_95_method_3_code 17 = .ok (.dup, 1) := by decide +kernel
theorem d3_18 : decode prog_95_method_3_code 18 = .ok (.iconst 2, 1) := by decide +kernel
theorem d3_19 : decode prog_95_method_3_code 19 = .ok (.aload_n 0, 1) := by decide +kernel
theorem d3_20 : decode prog_95_method_3_code 20 = .ok (.getfield 26, 3) := by decide +kernel
theorem d3_23 : decode prog_95_method_3_code 23 = .ok (.lastore, 1) := by decide +kernel
theorem d3_24 : decode prog_95_method_3_code 24 = .ok (.dup, 1) := by decide +kernel
theorem d3_25 : decode prog_95_method_3_code 25 = .ok (.iconst 3, 1) := by decide +kernel
theorem d3_26 : decode prog_95_method_3_code 26 = .ok (.aload_n 0, 1) := by decide +kernel
theorem d3_27 : decode prog_95_method_3_code 27 = .ok (.getfield 31, 3) := by decide +kernel
theorem d3_30 : decode prog_95_method_3_code 30 = .ok (.lastore, 1) := by decide +kernel
theorem d3_31 : decode prog_95_method_3_code 31 = .ok (.areturn, 1) := by decide +kernel
set_option maxRecDepth 65536 in
set_option maxHeartbeats 40000000 in
theorem rm3 (l : Launch) (Z : State) (a0 : Array Value) (hw : ∀ d ∈ tables_1, d.before a0 Z = true) (ws : List Jvm.Cond) (o0 : Addr) (x0 x1 x2 x3 : Int64) (h0 : Heap) (n0 : Nat) (Z0 : n0 ≤ h0.size) (E0 : Exa Z h0 o0 "com/example/genomatrix/genomatrix/Xoshiro256PlusPlus") (Fs0 : Fld Z h0 o0 "com/example/genomatrix/genomatrix/Xoshiro256PlusPlus" "s0" "J" (.long x0)) (Fs1 : Fld Z h0 o0 "com/example/genomatrix/genomatrix/Xoshiro256PlusPlus" "s1" "J" (.long x1)) (Fs2 : Fld Z h0 o0 "com/example/genomatrix/genomatrix/Xoshiro256PlusPlus" "s2" "J" (.long x2)) (Fs3 : Fld Z h0 o0 "com/example/genomatrix/genomatrix/Xoshiro256PlusPlus" "s3" "J" (.long x3)) :
    MetFree l (⟨"com/example/genomatrix/genomatrix/Xoshiro256PlusPlus", "state", "()[J"⟩ : MethodName) (head1 (Jvm.Cond.code (⟨"com/example/genomatrix/genomatrix/Xoshiro256PlusPlus", "state", "()[J"⟩ : MethodName) prog_95_method_3_code 1 (some (.array .long)) :: ws) ({ frames := 0, cells := 1, slots := 4, locals := 0 } : Room)) (fun a U => a = #[(.ref o0)] ∧ Z.Warmed39 U.vm ∧ U.heap = h0) (fun _ _ _ _ _ => True) (fun _ U o U' => ∃ v L, o = .returned v ∧ (Q_rm3 Z o0 x0 x1 x2 x3 h0 n0) v U'.heap L ∧ FrameEnd U o U' L ({ frames := 0, cells := 1, slots := 4, locals := 0 } : Room).cells ({ frames := 0, cells := 1, slots := 4, locals := 0 } : Room).slots) := by
  refine MetFree.of_bodySF (plainFor_of_name pn_1) hisR ?_
  intro p e s m args below meth c s₁ Bd hml0 hP hK
  obtain ⟨rfl, hZ, hh⟩ := hP
  have hx := Bd.exec
  have hby := Bd.bytes
  have hml : c.maxLocals = 1 := hml0
  have hown : s.vm.findClass "com/example/genomatrix/genomatrix/Xoshiro256PlusPlus" = some m.cls := findClass_of_methodNamed Bd.named
  have hnm := (name_of_methodNamed Bd.named Bd.method).1
  have X0 : Stand p l e ({ frames := 0, cells := 1, slots := 4, locals := 0 } : Room) s m #[(.ref o0)] below meth c s₁ [] 0 0 := Stand.of_body Bd
  have e0 : s₁.heap = h0 := by rw [← hh, Bd.state]; rfl
  have N0 := Fr.nil n0
  show OFin p e below (ORet (Q_rm3 Z o0 x0 x1 x2 x3 h0 n0) s ({ frames := 0, cells := 1, slots := 4, locals := 0 } : Room).cells ({ frames := 0, cells := 1, slots := 4, locals := 0 } : Room).slots) (s₁.setTop (entryFrame m #[(.ref o0)] 1))
  refine OFin.go (fun t k => castTop (ef_rm3 m o0) k) ?_
  have K0 := Keep.refl h0 []
  show OFin p e below (ORet (Q_rm3 Z o0 x0 x1 x2 x3 h0 n0) s ({ frames := 0, cells := 1, slots := 4, locals := 0 } : Room).cells ({ frames := 0, cells := 1, slots := 4, locals := 0 } : Room).slots) (s₁.setTop (mkF m 0 #[.val (.ref o0)] []))
  have S1 : ∀ t, Steps p.tables e below (s₁.setTop (mkF m 1 #[.val (.ref o0)] [(.int (4 : Int32))])) t → Steps p.tables e below (s₁.setTop (mkF m 0 #[.val (.ref o0)] [])) t := by
    intro t k
    show Steps p.tables e below (s₁.setTop (mkF m 0 #[.val (.ref o0)] [])) t
    refine XS.iconst X0.here hx rfl (hb hby d3_0) ?_
    exact k
  refine OFin.go S1 ?_
  obtain ⟨T2, h2, k2, X2, e2, E2, A2, st2⟩ := newP X0 hx hZ (hw _ (List.mem_of_getElem? (i := 22) rfl)) e0 (g := (mkF m 1 #[.val (.ref o0)] [(.int (4 : Int32))])) rfl (hb hby d3_1) rfl (by decide) (cap := 4) (by decide) (by decide) (Nat.le_of_ble_eq_true rfl) (Nat.le_of_ble_eq_true rfl)
  obtain ⟨b2, g2⟩ : ∃ z, z = h0.size := ⟨_, rfl⟩
  rw [← g2] at A2 st2
  have q3 : o0 ≠ b2 := up_lt E0.lt g2
  have ge2 : n0 ≤ b2 := Nat.le_trans Z0 (Nat.le_of_eq g2.symm)
  have Z2 : n0 ≤ h2.size := Nat.le_trans Z0 E2.1
  have sz2 : h0.size ≤ b2 := Nat.le_trans K0.1 (Nat.le_of_eq g2.symm)
  have K2 := Keep.ext K0 E2
  have V2 : Ara Z h2 b2 .long 4 (fun _ => defaultValue .long) := Ara.new A2 rfl
  refine OFin.go st2 ?_
  show OFin p e below _ (T2.setTop (mkF m 3 #[.val (.ref o0)] [(.ref b2)]))
  have S4 : ∀ t, Steps p.tables e below (T2.setTop (mkF m 6 #[.val (.ref o0)] [(.ref o0), (.int (0 : Int32)), (.ref b2), (.ref b2)])) t → Steps p.tables e below (T2.setTop (mkF m 3 #[.val (.ref o0)] [(.ref b2)])) t := by
    intro t k
    show Steps p.tables e below (T2.setTop (mkF m 3 #[.val (.ref o0)] [(.ref b2)])) t
    refine XS.dup X2.here hx rfl (hb hby d3_3) rfl rfl ?_
    show Steps p.tables e below (T2.setTop (mkF m 4 #[.val (.ref o0)] [(.ref b2), (.ref b2)])) t
    refine XS.iconst X2.here hx rfl (hb hby d3_4) ?_
    show Steps p.tables e below (T2.setTop (mkF m 5 #[.val (.ref o0)] [(.int (0 : Int32)), (.ref b2), (.ref b2)])) t
    refine XS.aloadN X2.here hx rfl (hb hby d3_5) rfl rfl ?_
    exact k
  refine OFin.go S4 ?_
  have F5 := Fs0.ext E2
  obtain ⟨T6, X6, e6, st6⟩ := getF X2 hx hZ hown (host := "") (Or.inl (hw _ (List.mem_of_getElem? (i := 9) rfl))) Via.refl e2 F5 (g := (mkF m 6 #[.val (.ref o0)] [(.ref o0), (.int (0 : Int32)), (.ref b2), (.ref b2)])) rfl rfl (hb hby d3_6)
  refine OFin.go st6 ?_
  show OFin p e below _ (T6.setTop (mkF m 9 #[.val (.ref o0)] [(.long x0), (.int (0 : Int32)), (.ref b2), (.ref b2)]))
  obtain ⟨T7, h7, X7, e7, W7, st7⟩ := wrJ X6 hx hZ e6 V2 (i := 0) (by decide) rfl (by decide) (g := (mkF m 9 #[.val (.ref o0)] [(.long x0), (.int (0 : Int32)), (.ref b2), (.ref b2)])) rfl rfl (hb hby d3_9)
  have V7 := V2.set W7
  have N7 := Fr.snoc X7 N0 ge2
  have Z7 : n0 ≤ h7.size := Nat.le_trans Z2 (wr_le W7)
  have K7 := Keep.wr K2 W7 (Or.inr sz2)
  refine OFin.go st7 ?_
  show OFin p e below _ (T7.setTop (mkF m 10 #[.val (.ref o0)] [(.ref b2)]))
  have S8 : ∀ t, Steps p.tables e below (T7.setTop (mkF m 13 #[.val (.ref o0)] [(.ref o0), (.int (1 : Int32)), (.ref b2), (.ref b2)])) t → Steps p.tables e below (T7.setTop (mkF m 10 #[.val (.ref o0)] [(.ref b2)])) t := by
    intro t k
    show Steps p.tables e below (T7.setTop (mkF m 10 #[.val (.ref o0)] [(.ref b2)])) t
    refine XS.dup X7.here hx rfl (hb hby d3_10) rfl rfl ?_
    show Steps p.tables e below (T7.setTop (mkF m 11 #[.val (.ref o0)] [(.ref b2), (.ref b2)])) t
    refine XS.iconst X7.here hx rfl (hb hby d3_11) ?_
    show Steps p.tables e below (T7.setTop (mkF m 12 #[.val (.ref o0)] [(.int (1 : Int32)), (.ref b2), (.ref b2)])) t
    refine XS.aloadN X7.here hx rfl (hb hby d3_12) rfl rfl ?_
    exact k
  refine OFin.go S8 ?_
  have F9 := Fs1.ext E2
  have F10 := F9.other W7 (Or.inl q3)
  obtain ⟨T11, X11, e11, st11⟩ := getF X7 hx hZ hown (host := "") (Or.inl (hw _ (List.mem_of_getElem? (i := 11) rfl))) Via.refl e7 F10 (g := (mkF m 13 #[.val (.ref o0)] [(.ref o0), (.int (1 : Int32)), (.ref b2), (.ref b2)])) rfl rfl (hb hby d3_13)
  refine OFin.go st11 ?_
  show OFin p e below _ (T11.setTop (mkF m 16 #[.val (.ref o0)] [(.long x1), (.int (1 : Int32)), (.ref b2), (.ref b2)]))
  obtain ⟨T12, h12, X12, e12, W12, st12⟩ := wrJ X11 hx hZ e11 V7 (i := 1) (by decide) rfl (by decide) (g := (mkF m 16 #[.val (.ref o0)] [(.long x1), (.int (1 : Int32)), (.ref b2), (.ref b2)])) rfl rfl (hb hby d3_16)
  have V12 := V7.set W12
  have N12 := Fr.snoc X12 N7 ge2
  have Z12 : n0 ≤ h12.size := Nat.le_trans Z7 (wr_le W12)
  have K12 := Keep.wr K7 W12 (Or.inr sz2)
  refine OFin.go st12 ?_
  show OFin p e below _ (T12.setTop (mkF m 17 #[.val (.ref o0)] [(.ref b2)]))
  have S13 : ∀ t, Steps p.tables e below (T12.setTop (mkF m 20 #[.val (.ref o0)] [(.ref o0), (.int (2 : Int32)), (.ref b2), (.ref b2)])) t → Steps p.tables e below (T12.setTop (mkF m 17 #[.val (.ref o0)] [(.ref b2)])) t := by
    intro t k
    show Steps p.tables e below (T12.setTop (mkF m 17 #[.val (.ref o0)] [(.ref b2)])) t
    refine XS.dup X12.here hx rfl (hb hby d3_17) rfl rfl ?_
    show Steps p.tables e below (T12.setTop (mkF m 18 #[.val (.ref o0)] [(.ref b2), (.ref b2)])) t
    refine XS.iconst X12.here hx rfl (hb hby d3_18) ?_
    show Steps p.tables e below (T12.setTop (mkF m 19 #[.val (.ref o0)] [(.int (2 : Int32)), (.ref b2), (.ref b2)])) t
    refine XS.aloadN X12.here hx rfl (hb hby d3_19) rfl rfl ?_
    exact k
  refine OFin.go S13 ?_
  have F14 := Fs2.ext E2
  have F15 := F14.other W7 (Or.inl q3)
  have F16 := F15.other W12 (Or.inl q3)
  obtain ⟨T17, X17, e17, st17⟩ := getF X12 hx hZ hown (host := "") (Or.inl (hw _ (List.mem_of_getElem? (i := 13) rfl))) Via.refl e12 F16 (g := (mkF m 20 #[.val (.ref o0)] [(.ref o0), (.int (2 : Int32)), (.ref b2), (.ref b2)])) rfl rfl (hb hby d3_20)
  refine OFin.go st17 ?_
  show OFin p e below _ (T17.setTop (mkF m 23 #[.val (.ref o0)] [(.long x2), (.int (2 : Int32)), (.ref b2), (.ref b2)]))
  obtain ⟨T18, h18, X18, e18, W18, st18⟩ := wrJ X17 hx hZ e17 V12 (i := 2) (by decide) rfl (by decide) (g := (mkF m 23 #[.val (.ref o0)] [(.long x2), (.int (2 : Int32)), (.ref b2), (.ref b2)])) rfl rfl (hb hby d3_23)
  have V18 := V12.set W18
  have N18 := Fr.snoc X18 N12 ge2
  have Z18 : n0 ≤ h18.size := Nat.le_trans Z12 (wr_le W18)
  have K18 := Keep.wr K12 W18 (Or.inr sz2)
  refine OFin.go st18 ?_
  show OFin p e below _ (T18.setTop (mkF m 24 #[.val (.ref o0)] [(.ref b2)]))
  have S19 : ∀ t, Steps p.tables e below (T18.setTop (mkF m 27 #[.val (.ref o0)] [(.ref o0), (.int (3 : Int32)), (.ref b2), (.ref b2)])) t → Steps p.tables e below (T18.setTop (mkF m 24 #[.val (.ref o0)] [(.ref b2)])) t := by
    intro t k
    show Steps p.tables e below (T18.setTop (mkF m 24 #[.val (.ref o0)] [(.ref b2)])) t
    refine XS.dup X18.here hx rfl (hb hby d3_24) rfl rfl ?_
    show Steps p.tables e below (T18.setTop (mkF m 25 #[.val (.ref o0)] [(.ref b2), (.ref b2)])) t
    refine XS.iconst X18.here hx rfl (hb hby d3_25) ?_
    show Steps p.tables e below (T18.setTop (mkF m 26 #[.val (.ref o0)] [(.int (3 : Int32)), (.ref b2), (.ref b2)])) t
    refine XS.aloadN X18.here hx rfl (hb hby d3_26) rfl rfl ?_
    exact k
  refine OFin.go S19 ?_
  have F20 := Fs3.ext E2
  have F21 := F20.other W7 (Or.inl q3)
  have F22 := F21.other W12 (Or.inl q3)
  have F23 := F22.other W18 (Or.inl q3)
  obtain ⟨T24, X24, e24, st24⟩ := getF X18 hx hZ hown (host := "") (Or.inl (hw _ (List.mem_of_getElem? (i := 15) rfl))) Via.refl e18 F23 (g := (mkF m 27 #[.val (.ref o0)] [(.ref o0), (.int (3 : Int32)), (.ref b2), (.ref b2)])) rfl rfl (hb hby d3_27)
  refine OFin.go st24 ?_
  show OFin p e below _ (T24.setTop (mkF m 30 #[.val (.ref o0)] [(.long x3), (.int (3 : Int32)), (.ref b2), (.ref b2)]))
  obtain ⟨T25, h25, X25, e25, W25, st25⟩ := wrJ X24 hx hZ e24 V18 (i := 3) (by decide) rfl (by decide) (g := (mkF m 30 #[.val (.ref o0)] [(.long x3), (.int (3 : Int32)), (.ref b2), (.ref b2)])) rfl rfl (hb hby d3_30)
  have V25 := V18.set W25
  have N25 := Fr.snoc X25 N18 ge2
  have Z25 : n0 ≤ h25.size := Nat.le_trans Z18 (wr_le W25)
  have K25 := Keep.wr K18 W25 (Or.inr sz2)
  refine OFin.go st25 ?_
  show OFin p e below _ (T25.setTop (mkF m 31 #[.val (.ref o0)] [(.ref b2)]))
  exact finA X25 hx Bd.notSynchronized rfl Bd.returns rfl (hb hby d3_31) (by decide) (by decide) (by rw [e25]; exact ⟨b2, rfl, N25, K25, sz2, V25⟩)
theorem ef_rm4 (m : MethodId) (o0 : Addr) : entryFrame m #[(.ref o0)] 5 = mkF m 0 #[.val (.ref o0), .unset, .unset, .unset, .unset] [] := by first | (simp [entryFrame, mkF, argsToLocals, Value.category]; done) | rfl
def Q_rm4 (Z : State) (o0 : Addr) (x0 x1 x2 x3 : Int64) (h0 : Heap) (n0 : Nat) (v : Option Value) (h : Heap) (L : List Loc) : Prop := v = some (.long (nxR x0 x1 x2 x3)) ∧ Fr n0 L ∧ Keep h0 h [o0] ∧ Fld Z h o0 "com/example/genomatrix/genomatrix/Xoshiro256PlusPlus" "s0" "J" (.long (nx0 x0 x1 x2 x3)) ∧ Fld Z h o0 "com/example/genomatrix/genomatrix/Xoshiro256PlusPlus" "s1" "J" (.long (nx1 x0 x1 x2 x3)) ∧ Fld Z h o0 "com/example/genomatrix/genomatrix/Xoshiro256PlusPlus" "s2" "J" (.long (nx2 x0 x1 x2 x3)) ∧ Fld Z h o0 "com/example/genomatrix/genomatrix/Xoshiro256PlusPlus" "s3" "J" (.long (nx3 x0 x1 x2 x3))
theorem d4_0 : decode prog_95_method_5_code 0 = .ok (.aload_n 0, 1) := by decide +kernel
theorem d4_1 : decode prog_95_method_5_code 1 = .ok (.getfield 15, 3) := by decide +kernel
theorem d4_4 : decode prog_95_method_5_code 4 = .ok (.aload_n 0, 1) := by decide +kernel
theorem d4_5 : decode prog_95_method_5_code 5 = .ok (.getfield 31, 3) := by decide +kernel
theorem d4_8 : decode prog_95_method_5_code 8 = .ok (.ladd, 1) := by decide +kernel
theorem d4_9 : decode prog_95_method_5_code 9 = .ok (.bipush 23, 2) := by decide +kernel
theorem pd_0 : parseMethodDescriptor "(JI)J" = some ⟨[.long, .int], some .long⟩ := by decide +kernel
theorem d4_11 : decode prog_95_method_5_code 11 = .ok (.invokestatic 38, 3) := by decide +kernel
theorem d4_14 : decode prog_95_method_5_code 14 = .ok (.aload_n 0, 1) := by decide +kernel
theorem d4_15 : decode prog_95_method_5_code 15 = .ok (.getfield 15, 3) := by decide +kernel
theorem d4_18 : decode prog_95_method_5_code 18 = .ok (.ladd, 1) := by decide +kernel
theorem d4_19 : decode prog_95_method_5_code 19 = .ok (.lstore_n 1, 1) := by decide +kernel
theorem d4_20 : decode prog_95_method_5_code 20 = .ok (.aload_n 0, 1) := by decide +kernel
theorem d4_21 : decode prog_95_method_5_code 21 = .ok (.getfield 21, 3) := by decide +kernel
theorem d4_24 : decode prog_95_method_5_code 24 = .ok (.bipush 17, 2) := by decide +kernel
theorem d4_26 : decode prog_95_method_5_code 26 = .ok (.lshl, 1) := by decide +kernel
theorem d4_27 : decode prog_95_method_5_code 27 = .ok (.lstore_n 3, 1) := by decide +kernel
theorem d4_28 : decode prog_95_method_5_code 28 = .ok (.aload_n 0, 1) := by decide +kernel
theorem d4_29 : decode prog_95_method_5_code 29 = .ok (.dup, 1) := by decide +kernel
theorem d4_30 : decode prog_95_method_5_code 30 = .ok (.getfield 26, 3) := by decide +kernel
theorem d4_33 : decode prog_95_method_5_code 33 = .ok (.aload_n 0, 1) := by decide +kernel
theorem d4_34 : decode prog_95_method_5_code 34 = .ok (.getfield 15, 3) := by decide +kernel
theorem d4_37 : decode prog_95_method_5_code 37 = .ok (.lxor, 1) := by decide +kernel
theorem d4_38 : decode prog_95_method_5_code 38 = .ok (.putfield 26, 3) := by decide +kernel
theorem d4_41 : decode prog_95_method_5_code 41 = .ok (.aload_n 0, 1) := by decide +kernel
theorem d4_42 : decode prog_95_method_5_code 42 = .ok (.dup, 1) := by decide +kernel
theorem d4_43 : decode prog_95_method_5_code 43 = .ok (.getfield 31, 3) := by decide +kernel
theorem d4_46 : decode prog_95_method_5_code 46 = .ok (.aload_n 0, 1) := by decide +kernel
theorem d4_47 : decode prog_95_method_5_code 47 = .ok (.getfield 21, 3) := by decide +kernel
theorem d4_50 : decode prog_95_method_5_code 50 = .ok (.lxor, 1) := by decide +kernel
theorem d4_51 : decode prog_95_method_5_code 51 = .ok (.putfield 31, 3) := by decide +kernel
theorem d4_54 : decode prog_95_method_5_code 54 = .ok (.aload_n 0, 1) := by decide +kernel
theorem d4_55 : decode prog_95_method_5_code 55 = .ok (.dup, 1) := by decide +kernel
theorem d4_56 : decode prog_95_method_5_code 56 = .ok (.getfield 21, 3) := by decide +kernel
theorem d4_59 : decode prog_95_method_5_code 59 = .ok (.aload_n 0, 1) := by decide +kernel
theorem d4_60 : decode prog_95_method_5_code 60 = .ok (.getfield 26, 3) := by decide +kernel
theorem d4_63 : decode prog_95_method_5_code 63 = .ok (.lxor, 1) := by decide +kernel
theorem d4_64 : decode prog_95_method_5_code 64 = .ok (.putfield 21, 3) := by decide +kernel
theorem d4_67 : decode prog_95_method_5_code 67 = .ok (.aload_n 0, 1) := by decide +kernel
theorem d4_68 : decode prog_95_method_5_code 68 = .ok (.dup, 1) := by decide +kernel
theorem d4_69 : decode prog_95_method_5_code 69 = .ok (.getfield 15, 3) := by decide +kernel
theorem d4_72 : decode prog_95_method_5_code 72 = .ok (.aload_n 0, 1) := by decide +kernel
theorem d4_73 : decode prog_95_method_5_code 73 = .ok (.getfield 31, 3) := by decide +kernel
theorem d4_76 : decode prog_95_method_5_code 76 = .ok (.lxor, 1) := by decide +kernel
theorem d4_77 : decode prog_95_method_5_code 77 = .ok (.putfield 15, 3) := by decide +kernel
theorem d4_80 : decode prog_95_method_5_code 80 = .ok (.aload_n 0, 1) := by decide +kernel
theorem d4_81 : decode prog_95_method_5_code 81 = .ok (.dup, 1) := by decide +kernel
theorem d4_82 : decode prog_95_method_5_code 82 = .ok (.getfield 26, 3) := by decide +kernel
theorem d4_85 : decode prog_95_method_5_code 85 = .ok (.lload_n 3, 1) := by decide +kernel
theorem d4_86 : decode prog_95_method_5_code 86 = .ok (.lxor, 1) := by decide +kernel
theorem d4_87 : decode prog_95_method_5_code 87 = .ok (.putfield 26, 3) := by decide +kernel
theorem d4_90 : decode prog_95_method_5_code 90 = .ok (.aload_n 0, 1) := by decide +kernel
theorem d4_91 : decode prog_95_method_5_code 91 = .ok (.aload_n 0, 1) := by decide +kernel
theorem d4_92 : decode prog_95_method_5_code 92 = .ok (.getfield 31, 3) := by decide +kernel
theorem d4_95 : decode prog_95_method_5_code 95 = .ok (.bipush 45, 2) := by decide +kernel
theorem d4_97 : decode prog_95_method_5_code 97 = .ok (.invokestatic 38, 3) := by decide +kernel
theorem d4_100 : decode prog_95_method_5_code 100 = .ok (.putfield 31, 3) := by decide +kernel
theorem d4_103 : decode prog_95_method_5_code 103 = .ok (.lload_n 1, 1) := by decide +kernel
theorem d4_104 : decode prog_95_method_5_code 104 = .ok (.lreturn, 1) := by decide +kernel
set_option maxRecDepth 65536 in
set_option maxHeartbeats 40000000 in
theorem rm4 (l : Launch) (Z : State) (a0 : Array Value) (hw : ∀ d ∈ tables_1, d.before a0 Z = true) (ws : List Jvm.Cond) (o0 : Addr) (x0 x1 x2 x3 : Int64) (h0 : Heap) (n0 : Nat) (Z0 : n0 ≤ h0.size) (E0 : Exa Z h0 o0 "com/example/genomatrix/genomatrix/Xoshiro256PlusPlus") (ge0 : n0 ≤ o0) (Fs0 : Fld Z h0 o0 "com/example/genomatrix/genomatrix/Xoshiro256PlusPlus" "s0" "J" (.long x0)) (Fs1 : Fld Z h0 o0 "com/example/genomatrix/genomatrix/Xoshiro256PlusPlus" "s1" "J" (.long x1)) (Fs2 : Fld Z h0 o0 "com/example/genomatrix/genomatrix/Xoshiro256PlusPlus" "s2" "J" (.long x2)) (Fs3 : Fld Z h0 o0 "com/example/genomatrix/genomatrix/Xoshiro256PlusPlus" "s3" "J" (.long x3)) :
    MetFree l (⟨"com/example/genomatrix/genomatrix/Xoshiro256PlusPlus", "nextLong", "()J"⟩ : MethodName) (head1 (Jvm.Cond.code (⟨"com/example/genomatrix/genomatrix/Xoshiro256PlusPlus", "nextLong", "()J"⟩ : MethodName) prog_95_method_5_code 5 (some .long) :: ws) ({ frames := 1, cells := 0, slots := 0, locals := 15 } : Room)) (fun a U => a = #[(.ref o0)] ∧ Z.Warmed39 U.vm ∧ U.heap = h0) (fun _ _ _ _ _ => True) (fun _ U o U' => ∃ v L, o = .returned v ∧ (Q_rm4 Z o0 x0 x1 x2 x3 h0 n0) v U'.heap L ∧ FrameEnd U o U' L ({ frames := 1, cells := 0, slots := 0, locals := 15 } : Room).cells ({ frames := 1, cells := 0, slots := 0, locals := 15 } : Room).slots) := by
  refine MetFree.of_bodySF (plainFor_of_name pn_1) hisR ?_
  intro p e s m args below meth c s₁ Bd hml0 hP hK
  obtain ⟨rfl, hZ, hh⟩ := hP
  have hx := Bd.exec
  have hby := Bd.bytes
  have hml : c.maxLocals = 5 := hml0
  have hown : s.vm.findClass "com/example/genomatrix/genomatrix/Xoshiro256PlusPlus" = some m.cls := findClass_of_methodNamed Bd.named
  have hnm := (name_of_methodNamed Bd.named Bd.method).1
  have X0 : Stand p l e ({ frames := 1, cells := 0, slots := 0, locals := 15 } : Room) s m #[(.ref o0)] below meth c s₁ [] 0 0 := Stand.of_body Bd
  have e0 : s₁.heap = h0 := by rw [← hh, Bd.state]; rfl
  have N0 := Fr.nil n0
  show OFin p e below (ORet (Q_rm4 Z o0 x0 x1 x2 x3 h0 n0) s ({ frames := 1, cells := 0, slots := 0, locals := 15 } : Room).cells ({ frames := 1, cells := 0, slots := 0, locals := 15 } : Room).slots) (s₁.setTop (entryFrame m #[(.ref o0)] 5))
  refine OFin.go (fun t k => castTop (ef_rm4 m o0) k) ?_
  have K0 := Keep.refl h0 [o0]
  show OFin p e below (ORet (Q_rm4 Z o0 x0 x1 x2 x3 h0 n0) s ({ frames := 1, cells := 0, slots := 0, locals := 15 } : Room).cells ({ frames := 1, cells := 0, slots := 0, locals := 15 } : Room).slots) (s₁.setTop (mkF m 0 #[.val (.ref o0), .unset, .unset, .unset, .unset] []))
  have S1 : ∀ t, Steps p.tables e below (s₁.setTop (mkF m 1 #[.val (.ref o0), .unset, .unset, .unset, .unset] [(.ref o0)])) t → Steps p.tables e below (s₁.setTop (mkF m 0 #[.val (.ref o0), .unset, .unset, .unset, .unset] [])) t := by
    intro t k
    show Steps p.tables e below (s₁.setTop (mkF m 0 #[.val (.ref o0), .unset, .unset, .unset, .unset] [])) t
    refine XS.aloadN X0.here hx rfl (hb hby d4_0) rfl rfl ?_
    exact k
  refine OFin.go S1 ?_
  obtain ⟨T2, X2, e2, st2⟩ := getF X0 hx hZ hown (host := "") (Or.inl (hw _ (List.mem_of_getElem? (i := 9) rfl))) Via.refl e0 Fs0 (g := (mkF m 1 #[.val (.ref o0), .unset, .unset, .unset, .unset] [(.ref o0)])) rfl rfl (hb hby d4_1)
  refine OFin.go st2 ?_
  show OFin p e below _ (T2.setTop (mkF m 4 #[.val (.ref o0), .unset, .unset, .unset, .unset] [(.long x0)]))
  have S3 : ∀ t, Steps p.tables e below (T2.setTop (mkF m 5 #[.val (.ref o0), .unset, .unset, .unset, .unset] [(.ref o0), (.long x0)])) t → Steps p.tables e below (T2.setTop (mkF m 4 #[.val (.ref o0), .unset, .unset, .unset, .unset] [(.long x0)])) t := by
    intro t k
    show Steps p.tables e below (T2.setTop (mkF m 4 #[.val (.ref o0), .unset, .unset, .unset, .unset] [(.long x0)])) t
    refine XS.aloadN X2.here hx rfl (hb hby d4_4) rfl rfl ?_
    exact k
  refine OFin.go S3 ?_
  obtain ⟨T4, X4, e4, st4⟩ := getF X2 hx hZ hown (host := "") (Or.inl (hw _ (List.mem_of_getElem? (i := 15) rfl))) Via.refl e2 Fs3 (g := (mkF m 5 #[.val (.ref o0), .unset, .unset, .unset, .unset] [(.ref o0), (.long x0)])) rfl rfl (hb hby d4_5)
  refine OFin.go st4 ?_
  show OFin p e below _ (T4.setTop (mkF m 8 #[.val (.ref o0), .unset, .unset, .unset, .unset] [(.long x3), (.long x0)]))
  have S5 : ∀ t, Steps p.tables e below (T4.setTop (mkF m 11 #[.val (.ref o0), .unset, .unset, .unset, .unset] [(.int (23 : Int32)), (.long (x0 + x3))])) t → Steps p.tables e below (T4.setTop (mkF m 8 #[.val (.ref o0), .unset, .unset, .unset, .unset] [(.long x3), (.long x0)])) t := by
    intro t k
    show Steps p.tables e below (T4.setTop (mkF m 8 #[.val (.ref o0), .unset, .unset, .unset, .unset] [(.long x3), (.long x0)])) t
    refine XS.ladd X4.here hx rfl (hb hby d4_8) rfl ?_
    show Steps p.tables e below (T4.setTop (mkF m 9 #[.val (.ref o0), .unset, .unset, .unset, .unset] [(.long (x0 + x3))])) t
    refine XS.bipush X4.here hx rfl (hb hby d4_9) ?_
    exact k
  refine OFin.go S5 ?_
  obtain ⟨_, T6, Lc6, X6, hQ6, st6⟩ := callQ X4 hx hZ (y := (⟨"java/lang/Long", "rotateLeft", "(JI)J"⟩ : MethodName)) hown (hw _ (List.mem_of_getElem? (i := 29) rfl)) (hw _ (List.mem_of_getElem? (i := 30) rfl)) (hw _ (List.mem_of_getElem? (i := 31) rfl)) (hw _ (List.mem_of_getElem? (i := 32) rfl)) (by decide) (argsL := [(.long (x0 + x3)), (.int (23 : Int32))]) (rest := []) (rm5 l Z a0 hw [] (x0 + x3) (23 : Int32) h0 n0 Z0) (W := 0) (by decide) (by decide) e4 (g := (mkF m 11 #[.val (.ref o0), .unset, .unset, .unset, .unset] [(.int (23 : Int32)), (.long (x0 + x3))])) rfl (by rw [hml]; rfl) (lenOf pd_0 rfl) rfl (by show 2 * 0 + _ ≤ _; exact Nat.le_of_eq rfl) (hb hby d4_11) (Nat.le_of_ble_eq_true rfl) (Nat.le_of_ble_eq_true rfl)
  obtain ⟨rfl, N6q, e6⟩ := hQ6
  have N6 := Fr.app N0 N6q
  refine OFin.go st6 ?_
  show OFin p e below _ (T6.setTop (mkF m 14 #[.val (.ref o0), .unset, .unset, .unset, .unset] [(.long (rot (x0 + x3) (23 : Int32)))]))
  have S7 : ∀ t, Steps p.tables e below (T6.setTop (mkF m 15 #[.val (.ref o0), .unset, .unset, .unset, .unset] [(.ref o0), (.long (rot (x0 + x3) (23 : Int32)))])) t → Steps p.tables e below (T6.setTop (mkF m 14 #[.val (.ref o0), .unset, .unset, .unset, .unset] [(.long (rot (x0 + x3) (23 : Int32)))])) t := by
    intro t k
    show Steps p.tables e below (T6.setTop (mkF m 14 #[.val (.ref o0), .unset, .unset, .unset, .unset] [(.long (rot (x0 + x3) (23 : Int32)))])) t
    refine XS.aloadN X6.here hx rfl (hb hby d4_14) rfl rfl ?_
    exact k
  refine OFin.go S7 ?_
  obtain ⟨T8, X8, e8, st8⟩ := getF X6 hx hZ hown (host := "") (Or.inl (hw _ (List.mem_of_getElem? (i := 9) rfl))) Via.refl e6 Fs0 (g := (mkF m 15 #[.val (.ref o0), .unset, .unset, .unset, .unset] [(.ref o0), (.long (rot (x0 + x3) (23 : Int32)))])) rfl rfl (hb hby d4_15)
  refine OFin.go st8 ?_
  show OFin p e below _ (T8.setTop (mkF m 18 #[.val (.ref o0), .unset, .unset, .unset, .unset] [(.long x0), (.long (rot (x0 + x3) (23 : Int32)))]))
  have S9 : ∀ t, Steps p.tables e below (T8.setTop (mkF m 21 #[.val (.ref o0), .val (.long ((rot (x0 + x3) (23 : Int32)) + x0)), .second, .unset, .unset] [(.ref o0)])) t → Steps p.tables e below (T8.setTop (mkF m 18 #[.val (.ref o0), .unset, .unset, .unset, .unset] [(.long x0), (.long (rot (x0 + x3) (23 : Int32)))])) t := by
    intro t k
    show Steps p.tables e below (T8.setTop (mkF m 18 #[.val (.ref o0), .unset, .unset, .unset, .unset] [(.long x0), (.long (rot (x0 + x3) (23 : Int32)))])) t
    refine XS.ladd X8.here hx rfl (hb hby d4_18) rfl ?_
    show Steps p.tables e below (T8.setTop (mkF m 19 #[.val (.ref o0), .unset, .unset, .unset, .unset] [(.long ((rot (x0 + x3) (23 : Int32)) + x0))])) t
    refine XS.lstoreN X8.here hx rfl (hb hby d4_19) rfl (l' := #[.val (.ref o0), .val (.long ((rot (x0 + x3) (23 : Int32)) + x0)), .second, .unset, .unset]) rfl ?_
    show Steps p.tables e below (T8.setTop (mkF m 20 #[.val (.ref o0), .val (.long ((rot (x0 + x3) (23 : Int32)) + x0)), .second, .unset, .unset] [])) t
    refine XS.aloadN X8.here hx rfl (hb hby d4_20) rfl rfl ?_
    exact k
  refine OFin.go S9 ?_
  obtain ⟨T10, X10, e10, st10⟩ := getF X8 hx hZ hown (host := "") (Or.inl (hw _ (List.mem_of_getElem? (i := 11) rfl))) Via.refl e8 Fs1 (g := (mkF m 21 #[.val (.ref o0), .val (.long ((rot (x0 + x3) (23 : Int32)) + x0)), .second, .unset, .unset] [(.ref o0)])) rfl rfl (hb hby d4_21)
  refine OFin.go st10 ?_
  show OFin p e below _ (T10.setTop (mkF m 24 #[.val (.ref o0), .val (.long ((rot (x0 + x3) (23 : Int32)) + x0)), .second, .unset, .unset] [(.long x1)]))
  have S11 : ∀ t, Steps p.tables e below (T10.setTop (mkF m 30 #[.val (.ref o0), .val (.long ((rot (x0 + x3) (23 : Int32)) + x0)), .second, .val (.long (x1 <<< ((17 : Int32) &&& 0x3f).toInt64)), .second] [(.ref o0), (.ref o0)])) t → Steps p.tables e below (T10.setTop (mkF m 24 #[.val (.ref o0), .val (.long ((rot (x0 + x3) (23 : Int32)) + x0)), .second, .unset, .unset] [(.long x1)])) t := by
    intro t k
    show Steps p.tables e below (T10.setTop (mkF m 24 #[.val (.ref o0), .val (.long ((rot (x0 + x3) (23 : Int32)) + x0)), .second, .unset, .unset] [(.long x1)])) t
    refine XS.bipush X10.here hx rfl (hb hby d4_24) ?_
    show Steps p.tables e below (T10.setTop (mkF m 26 #[.val (.ref o0), .val (.long ((rot (x0 + x3) (23 : Int32)) + x0)), .second, .unset, .unset] [(.int (17 : Int32)), (.long x1)])) t
    refine XS.lshl X10.here hx rfl (hb hby d4_26) rfl ?_
    show Steps p.tables e below (T10.setTop (mkF m 27 #[.val (.ref o0), .val (.long ((rot (x0 + x3) (23 : Int32)) + x0)), .second, .unset, .unset] [(.long (x1 <<< ((17 : Int32) &&& 0x3f).toInt64))])) t
    refine XS.lstoreN X10.here hx rfl (hb hby d4_27) rfl (l' := #[.val (.ref o0), .val (.long ((rot (x0 + x3) (23 : Int32)) + x0)), .second, .val (.long (x1 <<< ((17 : Int32) &&& 0x3f).toInt64)), .second]) rfl ?_
    show Steps p.tables e below (T10.setTop (mkF m 28 #[.val (.ref o0), .val (.long ((rot (x0 + x3) (23 : Int32)) + x0)), .second, .val (.long (x1 <<< ((17 : Int32) &&& 0x3f).toInt64)), .second] [])) t
    refine XS.aloadN X10.here hx rfl (hb hby d4_28) rfl rfl ?_
    show Steps p.tables e below (T10.setTop (mkF m 29 #[.val (.ref o0), .val (.long ((rot (x0 + x3) (23 : Int32)) + x0)), .second, .val (.long (x1 <<< ((17 : Int32) &&& 0x3f).toInt64)), .second] [(.ref o0)])) t
    refine XS.dup X10.here hx rfl (hb hby d4_29) rfl rfl ?_
    exact k
  refine OFin.go S11 ?_
  obtain ⟨T12, X12, e12, st12⟩ := getF X10 hx hZ hown (host := "") (Or.inl (hw _ (List.mem_of_getElem? (i := 13) rfl))) Via.refl e10 Fs2 (g := (mkF m 30 #[.val (.ref o0), .val (.long ((rot (x0 + x3) (23 : Int32)) + x0)), .second, .val (.long (x1 <<< ((17 : Int32) &&& 0x3f).toInt64)), .second] [(.ref o0), (.ref o0)])) rfl rfl (hb hby d4_30)
  refine OFin.go st12 ?_
  show OFin p e below _ (T12.setTop (mkF m 33 #[.val (.ref o0), .val (.long ((rot (x0 + x3) (23 : Int32)) + x0)), .second, .val (.long (x1 <<< ((17 : Int32) &&& 0x3f).toInt64)), .second] [(.long x2), (.ref o0)]))
  have S13 : ∀ t, Steps p.tables e below (T12.setTop (mkF m 34 #[.val (.ref o0), .val (.long ((rot (x0 + x3) (23 : Int32)) + x0)), .second, .val (.long (x1 <<< ((17 : Int32) &&& 0x3f).toInt64)), .second] [(.ref o0), (.long x2), (.ref o0)])) t → Steps p.tables e below (T12.setTop (mkF m 33 #[.val (.ref o0), .val (.long ((rot (x0 + x3) (23 : Int32)) + x0)), .second, .val (.long (x1 <<< ((17 : Int32) &&& 0x3f).toInt64)), .second] [(.long x2), (.ref o0)])) t := by
    intro t k
    show Steps p.tables e below (T12.setTop (mkF m 33 #[.val (.ref o0), .val (.long ((rot (x0 + x3) (23 : Int32)) + x0)), .second, .val (.long (x1 <<< ((17 : Int32) &&& 0x3f).toInt64)), .second] [(.long x2), (.ref o0)])) t
    refine XS.aloadN X12.here hx rfl (hb hby d4_33) rfl rfl ?_
    exact k
  refine OFin.go S13 ?_
  obtain ⟨T14, X14, e14, st14⟩ := getF X12 hx hZ hown (host := "") (Or.inl (hw _ (List.mem_of_getElem? (i := 9) rfl))) Via.refl e12 Fs0 (g := (mkF m 34 #[.val (.ref o0), .val (.long ((rot (x0 + x3) (23 : Int32)) + x0)), .second, .val (.long (x1 <<< ((17 : Int32) &&& 0x3f).toInt64)), .second] [(.ref o0), (.long x2), (.ref o0)])) rfl rfl (hb hby d4_34)
  refine OFin.go st14 ?_
  show OFin p e below _ (T14.setTop (mkF m 37 #[.val (.ref o0), .val (.long ((rot (x0 + x3) (23 : Int32)) + x0)), .second, .val (.long (x1 <<< ((17 : Int32) &&& 0x3f).toInt64)), .second] [(.long x0), (.long x2), (.ref o0)]))
  have S15 : ∀ t, Steps p.tables e below (T14.setTop (mkF m 38 #[.val (.ref o0), .val (.long ((rot (x0 + x3) (23 : Int32)) + x0)), .second, .val (.long (x1 <<< ((17 : Int32) &&& 0x3f).toInt64)), .second] [(.long (x2 ^^^ x0)), (.ref o0)])) t → Steps p.tables e below (T14.setTop (mkF m 37 #[.val (.ref o0), .val (.long ((rot (x0 + x3) (23 : Int32)) + x0)), .second, .val (.long (x1 <<< ((17 : Int32) &&& 0x3f).toInt64)), .second] [(.long x0), (.long x2), (.ref o0)])) t := by
    intro t k
    show Steps p.tables e below (T14.setTop (mkF m 37 #[.val (.ref o0), .val (.long ((rot (x0 + x3) (23 : Int32)) + x0)), .second, .val (.long (x1 <<< ((17 : Int32) &&& 0x3f).toInt64)), .second] [(.long x0), (.long x2), (.ref o0)])) t
    refine XS.lxor X14.here hx rfl (hb hby d4_37) rfl ?_
    exact k
  refine OFin.go S15 ?_
  obtain ⟨T16, h16, X16, e16, W16, st16⟩ := putF X14 hx hZ hown (host := "") (Or.inl (hw _ (List.mem_of_getElem? (i := 13) rfl))) Via.refl e14 Fs2 E0 (Or.inl (hw _ (List.mem_of_getElem? (i := 14) rfl))) (hw _ (List.mem_of_getElem? (i := 1) rfl)) (ty := .long) (by decide) rfl rfl (g := (mkF m 38 #[.val (.ref o0), .val (.long ((rot (x0 + x3) (23 : Int32)) + x0)), .second, .val (.long (x1 <<< ((17 : Int32) &&& 0x3f).toInt64)), .second] [(.long (x2 ^^^ x0)), (.ref o0)])) rfl rfl (hb hby d4_38)
  have Fw16 := Fs2.same W16
  have N16 := Fr.snoc X16 N6 ge0
  have Z16 : n0 ≤ h16.size := Nat.le_trans Z0 (wr_le W16)
  have K16 := Keep.wr K0 W16 (Or.inl (List.mem_of_getElem? (i := 0) rfl))
  refine OFin.go st16 ?_
  show OFin p e below _ (T16.setTop (mkF m 41 #[.val (.ref o0), .val (.long ((rot (x0 + x3) (23 : Int32)) + x0)), .second, .val (.long (x1 <<< ((17 : Int32) &&& 0x3f).toInt64)), .second] []))
  have S17 : ∀ t, Steps p.tables e below (T16.setTop (mkF m 43 #[.val (.ref o0), .val (.long ((rot (x0 + x3) (23 : Int32)) + x0)), .second, .val (.long (x1 <<< ((17 : Int32) &&& 0x3f).toInt64)), .second] [(.ref o0), (.ref o0)])) t → Steps p.tables e below (T16.setTop (mkF m 41 #[.val (.ref o0), .val (.long ((rot (x0 + x3) (23 : Int32)) + x0)), .second, .val (.long (x1 <<< ((17 : Int32) &&& 0x3f).toInt64)), .second] [])) t := by
    intro t k
    show Steps p.tables e below (T16.setTop (mkF m 41 #[.val (.ref o0), .val (.long ((rot (x0 + x3) (23 : Int32)) + x0)), .second, .val (.long (x1 <<< ((17 : Int32) &&& 0x3f).toInt64)), .second] [])) t
    refine XS.aloadN X16.here hx rfl (hb hby d4_41) rfl rfl ?_
    show Steps p.tables e below (T16.setTop (mkF m 42 #[.val (.ref o0), .val (.long ((rot (x0 + x3) (23 : Int32)) + x0)), .second, .val (.long (x1 <<< ((17 : Int32) &&& 0x3f).toInt64)), .second] [(.ref o0)])) t
    refine XS.dup X16.here hx rfl (hb hby d4_42) rfl rfl ?_
    exact k
  refine OFin.go S17 ?_
  have F18 := Fs3.other W16 (Or.inr (slot_ne (Or.inl (hw _ (List.mem_of_getElem? (i := 16) rfl))) (Or.inl (hw _ (List.mem_of_getElem? (i := 14) rfl))) (by decide) (t := .long) (t' := .long) (by decide) (by decide)))
  obtain ⟨T19, X19, e19, st19⟩ := getF X16 hx hZ hown (host := "") (Or.inl (hw _ (List.mem_of_getElem? (i := 15) rfl))) Via.refl e16 F18 (g := (mkF m 43 #[.val (.ref o0), .val (.long ((rot (x0 + x3) (23 : Int32)) + x0)), .second, .val (.long (x1 <<< ((17 : Int32) &&& 0x3f).toInt64)), .second] [(.ref o0), (.ref o0)])) rfl rfl (hb hby d4_43)
  refine OFin.go st19 ?_
  show OFin p e below _ (T19.setTop (mkF m 46 #[.val (.ref o0), .val (.long ((rot (x0 + x3) (23 : Int32)) + x0)), .second, .val (.long (x1 <<< ((17 : Int32) &&& 0x3f).toInt64)), .second] [(.long x3), (.ref o0)]))
  have S20 : ∀ t, Steps p.tables e below (T19.setTop (mkF m 47 #[.val (.ref o0), .val (.long ((rot (x0 + x3) (23 : Int32)) + x0)), .second, .val (.long (x1 <<< ((17 : Int32) &&& 0x3f).toInt64)), .second] [(.ref o0), (.long x3), (.ref o0)])) t → Steps p.tables e below (T19.setTop (mkF m 46 #[.val (.ref o0), .val (.long ((rot (x0 + x3) (23 : Int32)) + x0)), .second, .val (.long (x1 <<< ((17 : Int32) &&& 0x3f).toInt64)), .second] [(.long x3), (.ref o0)])) t := by
    intro t k
    show Steps p.tables e below (T19.setTop (mkF m 46 #[.val (.ref o0), .val (.long ((rot (x0 + x3) (23 : Int32)) + x0)), .second, .val (.long (x1 <<< ((17 : Int32) &&& 0x3f).toInt64)), .second] [(.long x3), (.ref o0)])) t
    refine XS.aloadN X19.here hx rfl (hb hby d4_46) rfl rfl ?_
    exact k
  refine OFin.go S20 ?_
  have F21 := Fs1.other W16 (Or.inr (slot_ne (Or.inl (hw _ (List.mem_of_getElem? (i := 12) rfl))) (Or.inl (hw _ (List.mem_of_getElem? (i := 14) rfl))) (by decide) (t := .long) (t' := .long) (by decide) (by decide)))
  obtain ⟨T22, X22, e22, st22⟩ := getF X19 hx hZ hown (host := "") (Or.inl (hw _ (List.mem_of_getElem? (i := 11) rfl))) Via.refl e19 F21 (g := (mkF m 47 #[.val (.ref o0), .val (.long ((rot (x0 + x3) (23 : Int32)) + x0)), .second, .val (.long (x1 <<< ((17 : Int32) &&& 0x3f).toInt64)), .second] [(.ref o0), (.long x3), (.ref o0)])) rfl rfl (hb hby d4_47)
  refine OFin.go st22 ?_
  show OFin p e below _ (T22.setTop (mkF m 50 #[.val (.ref o0), .val (.long ((rot (x0 + x3) (23 : Int32)) + x0)), .second, .val (.long (x1 <<< ((17 : Int32) &&& 0x3f).toInt64)), .second] [(.long x1), (.long x3), (.ref o0)]))
  have S23 : ∀ t, Steps p.tables e below (T22.setTop (mkF m 51 #[.val (.ref o0), .val (.long ((rot (x0 + x3) (23 : Int32)) + x0)), .second, .val (.long (x1 <<< ((17 : Int32) &&& 0x3f).toInt64)), .second] [(.long (x3 ^^^ x1)), (.ref o0)])) t → Steps p.tables e below (T22.setTop (mkF m 50 #[.val (.ref o0), .val (.long ((rot (x0 + x3) (23 : Int32)) + x0)), .second, .val (.long (x1 <<< ((17 : Int32) &&& 0x3f).toInt64)), .second] [(.long x1), (.long x3), (.ref o0)])) t := by
    intro t k
    show Steps p.tables e below (T22.setTop (mkF m 50 #[.val (.ref o0), .val (.long ((rot (x0 + x3) (23 : Int32)) + x0)), .second, .val (.long (x1 <<< ((17 : Int32) &&& 0x3f).toInt64)), .second] [(.long x1), (.long x3), (.ref o0)])) t
    refine XS.lxor X22.here hx rfl (hb hby d4_50) rfl ?_
    exact k
  refine OFin.go S23 ?_
  have F24 := E0.wr W16
  obtain ⟨T25, h25, X25, e25, W25, st25⟩ := putF X22 hx hZ hown (host := "") (Or.inl (hw _ (List.mem_of_getElem? (i := 15) rfl))) Via.refl e22 F18 F24 (Or.inl (hw _ (List.mem_of_getElem? (i := 16) rfl))) (hw _ (List.mem_of_getElem? (i := 1) rfl)) (ty := .long) (by decide) rfl rfl (g := (mkF m 51 #[.val (.ref o0), .val (.long ((rot (x0 + x3) (23 : Int32)) + x0)), .second, .val (.long (x1 <<< ((17 : Int32) &&& 0x3f).toInt64)), .second] [(.long (x3 ^^^ x1)), (.ref o0)])) rfl rfl (hb hby d4_51)
  have Fw25 := F18.same W25
  have N25 := Fr.snoc X25 N16 ge0
  have Z25 : n0 ≤ h25.size := Nat.le_trans Z16 (wr_le W25)
  have K25 := Keep.wr K16 W25 (Or.inl (List.mem_of_getElem? (i := 0) rfl))
  refine OFin.go st25 ?_
  show OFin p e below _ (T25.setTop (mkF m 54 #[.val (.ref o0), .val (.long ((rot (x0 + x3) (23 : Int32)) + x0)), .second, .val (.long (x1 <<< ((17 : Int32) &&& 0x3f).toInt64)), .second] []))
  have S26 : ∀ t, Steps p.tables e below (T25.setTop (mkF m 56 #[.val (.ref o0), .val (.long ((rot (x0 + x3) (23 : Int32)) + x0)), .second, .val (.long (x1 <<< ((17 : Int32) &&& 0x3f).toInt64)), .second] [(.ref o0), (.ref o0)])) t → Steps p.tables e below (T25.setTop (mkF m 54 #[.val (.ref o0), .val (.long ((rot (x0 + x3) (23 : Int32)) + x0)), .second, .val (.long (x1 <<< ((17 : Int32) &&& 0x3f).toInt64)), .second] [])) t := by
    intro t k
    show Steps p.tables e below (T25.setTop (mkF m 54 #[.val (.ref o0), .val (.long ((rot (x0 + x3) (23 : Int32)) + x0)), .second, .val (.long (x1 <<< ((17 : Int32) &&& 0x3f).toInt64)), .second] [])) t
    refine XS.aloadN X25.here hx rfl (hb hby d4_54) rfl rfl ?_
    show Steps p.tables e below (T25.setTop (mkF m 55 #[.val (.ref o0), .val (.long ((rot (x0 + x3) (23 : Int32)) + x0)), .second, .val (.long (x1 <<< ((17 : Int32) &&& 0x3f).toInt64)), .second] [(.ref o0)])) t
    refine XS.dup X25.here hx rfl (hb hby d4_55) rfl rfl ?_
    exact k
  refine OFin.go S26 ?_
  have F27 := F21.other W25 (Or.inr (slot_ne (Or.inl (hw _ (List.mem_of_getElem? (i := 12) rfl))) (Or.inl (hw _ (List.mem_of_getElem? (i := 16) rfl))) (by decide) (t := .long) (t' := .long) (by decide) (by decide)))
  obtain ⟨T28, X28, e28, st28⟩ := getF X25 hx hZ hown (host := "") (Or.inl (hw _ (List.mem_of_getElem? (i := 11) rfl))) Via.refl e25 F27 (g := (mkF m 56 #[.val (.ref o0), .val (.long ((rot (x0 + x3) (23 : Int32)) + x0)), .second, .val (.long (x1 <<< ((17 : Int32) &&& 0x3f).toInt64)), .second] [(.ref o0), (.ref o0)])) rfl rfl (hb hby d4_56)
  refine OFin.go st28 ?_
  show OFin p e below _ (T28.setTop (mkF m 59 #[.val (.ref o0), .val (.long ((rot (x0 + x3) (23 : Int32)) + x0)), .second, .val (.long (x1 <<< ((17 : Int32) &&& 0x3f).toInt64)), .second] [(.long x1), (.ref o0)]))
  have S29 : ∀ t, Steps p.tables e below (T28.setTop (mkF m 60 #[.val (.ref o0), .val (.long ((rot (x0 + x3) (23 : Int32)) + x0)), .second, .val (.long (x1 <<< ((17 : Int32) &&& 0x3f).toInt64)), .second] [(.ref o0), (.long x1), (.ref o0)])) t → Steps p.tables e below (T28.setTop (mkF m 59 #[.val (.ref o0), .val (.long ((rot (x0 + x3) (23 : Int32)) + x0)), .second, .val (.long (x1 <<< ((17 : Int32) &&& 0x3f).toInt64)), .second] [(.long x1), (.ref o0)])) t := by
    intro t k
    show Steps p.tables e below (T28.setTop (mkF m 59 #[.val (.ref o0), .val (.long ((rot (x0 + x3) (23 : Int32)) + x0)), .second, .val (.long (x1 <<< ((17 : Int32) &&& 0x3f).toInt64)), .second] [(.long x1), (.ref o0)])) t
    refine XS.aloadN X28.here hx rfl (hb hby d4_59) rfl rfl ?_
    exact k
  refine OFin.go S29 ?_
  have F30 := Fw16.other W25 (Or.inr (slot_ne (Or.inl (hw _ (List.mem_of_getElem? (i := 14) rfl))) (Or.inl (hw _ (List.mem_of_getElem? (i := 16) rfl))) (by decide) (t := .long) (t' := .long) (by decide) (by decide)))
  obtain ⟨T31, X31, e31, st31⟩ := getF X28 hx hZ hown (host := "") (Or.inl (hw _ (List.mem_of_getElem? (i := 13) rfl))) Via.refl e28 F30 (g := (mkF m 60 #[.val (.ref o0), .val (.long ((rot (x0 + x3) (23 : Int32)) + x0)), .second, .val (.long (x1 <<< ((17 : Int32) &&& 0x3f).toInt64)), .second] [(.ref o0), (.long x1), (.ref o0)])) rfl rfl (hb hby d4_60)
  refine OFin.go st31 ?_
  show OFin p e below _ (T31.setTop (mkF m 63 #[.val (.ref o0), .val (.long ((rot (x0 + x3) (23 : Int32)) + x0)), .second, .val (.long (x1 <<< ((17 : Int32) &&& 0x3f).toInt64)), .second] [(.long (x2 ^^^ x0)), (.long x1), (.ref o0)]))
  have S32 : ∀ t, Steps p.tables e below (T31.setTop (mkF m 64 #[.val (.ref o0), .val (.long ((rot (x0 + x3) (23 : Int32)) + x0)), .second, .val (.long (x1 <<< ((17 : Int32) &&& 0x3f).toInt64)), .second] [(.long (x1 ^^^ (x2 ^^^ x0))), (.ref o0)])) t → Steps p.tables e below (T31.setTop (mkF m 63 #[.val (.ref o0), .val (.long ((rot (x0 + x3) (23 : Int32)) + x0)), .second, .val (.long (x1 <<< ((17 : Int32) &&& 0x3f).toInt64)), .second] [(.long (x2 ^^^ x0)), (.long x1), (.ref o0)])) t := by
    intro t k
    show Steps p.tables e below (T31.setTop (mkF m 63 #[.val (.ref o0), .val (.long ((rot (x0 + x3) (23 : Int32)) + x0)), .second, .val (.long (x1 <<< ((17 : Int32) &&& 0x3f).toInt64)), .second] [(.long (x2 ^^^ x0)), (.long x1), (.ref o0)])) t
    refine XS.lxor X31.here hx rfl (hb hby d4_63) rfl ?_
    exact k
  refine OFin.go S32 ?_
  have F33 := F24.wr W25
  obtain ⟨T34, h34, X34, e34, W34, st34⟩ := putF X31 hx hZ hown (host := "") (Or.inl (hw _ (List.mem_of_getElem? (i := 11) rfl))) Via.refl e31 F27 F33 (Or.inl (hw _ (List.mem_of_getElem? (i := 12) rfl))) (hw _ (List.mem_of_getElem? (i := 1) rfl)) (ty := .long) (by decide) rfl rfl (g := (mkF m 64 #[.val (.ref o0), .val (.long ((rot (x0 + x3) (23 : Int32)) + x0)), .second, .val (.long (x1 <<< ((17 : Int32) &&& 0x3f).toInt64)), .second] [(.long (x1 ^^^ (x2 ^^^ x0))), (.ref o0)])) rfl rfl (hb hby d4_64)
  have Fw34 := F27.same W34
  have N34 := Fr.snoc X34 N25 ge0
  have Z34 : n0 ≤ h34.size := Nat.le_trans Z25 (wr_le W34)
  have K34 := Keep.wr K25 W34 (Or.inl (List.mem_of_getElem? (i := 0) rfl))
  refine OFin.go st34 ?_
  show OFin p e below _ (T34.setTop (mkF m 67 #[.val (.ref o0), .val (.long ((rot (x0 + x3) (23 : Int32)) + x0)), .second, .val (.long (x1 <<< ((17 : Int32) &&& 0x3f).toInt64)), .second] []))
  have S35 : ∀ t, Steps p.tables e below (T34.setTop (mkF m 69 #[.val (.ref o0), .val (.long ((rot (x0 + x3) (23 : Int32)) + x0)), .second, .val (.long (x1 <<< ((17 : Int32) &&& 0x3f).toInt64)), .second] [(.ref o0), (.ref o0)])) t → Steps p.tables e below (T34.setTop (mkF m 67 #[.val (.ref o0), .val (.long ((rot (x0 + x3) (23 : Int32)) + x0)), .second, .val (.long (x1 <<< ((17 : Int32) &&& 0x3f).toInt64)), .second] [])) t := by
    intro t k
    show Steps p.tables e below (T34.setTop (mkF m 67 #[.val (.ref o0), .val (.long ((rot (x0 + x3) (23 : Int32)) + x0)), .second, .val (.long (x1 <<< ((17 : Int32) &&& 0x3f).toInt64)), .second] [])) t
    refine XS.aloadN X34.here hx rfl (hb hby d4_67) rfl rfl ?_
    show Steps p.tables e below (T34.setTop (mkF m 68 #[.val (.ref o0), .val (.long ((rot (x0 + x3) (23 : Int32)) + x0)), .second, .val (.long (x1 <<< ((17 : Int32) &&& 0x3f).toInt64)), .second] [(.ref o0)])) t
    refine XS.dup X34.here hx rfl (hb hby d4_68) rfl rfl ?_
    exact k
  refine OFin.go S35 ?_
  have F36 := Fs0.other W16 (Or.inr (slot_ne (Or.inl (hw _ (List.mem_of_getElem? (i := 10) rfl))) (Or.inl (hw _ (List.mem_of_getElem? (i := 14) rfl))) (by decide) (t := .long) (t' := .long) (by decide) (by decide)))
  have F37 := F36.other W25 (Or.inr (slot_ne (Or.inl (hw _ (List.mem_of_getElem? (i := 10) rfl))) (Or.inl (hw _ (List.mem_of_getElem? (i := 16) rfl))) (by decide) (t := .long) (t' := .long) (by decide) (by decide)))
  have F38 := F37.other W34 (Or.inr (slot_ne (Or.inl (hw _ (List.mem_of_getElem? (i := 10) rfl))) (Or.inl (hw _ (List.mem_of_getElem? (i := 12) rfl))) (by decide) (t := .long) (t' := .long) (by decide) (by decide)))
  obtain ⟨T39, X39, e39, st39⟩ := getF X34 hx hZ hown (host := "") (Or.inl (hw _ (List.mem_of_getElem? (i := 9) rfl))) Via.refl e34 F38 (g := (mkF m 69 #[.val (.ref o0), .val (.long ((rot (x0 + x3) (23 : Int32)) + x0)), .second, .val (.long (x1 <<< ((17 : Int32) &&& 0x3f).toInt64)), .second] [(.ref o0), (.ref o0)])) rfl rfl (hb hby d4_69)
  refine OFin.go st39 ?_
  show OFin p e below _ (T39.setTop (mkF m 72 #[.val (.ref o0), .val (.long ((rot (x0 + x3) (23 : Int32)) + x0)), .second, .val (.long (x1 <<< ((17 : Int32) &&& 0x3f).toInt64)), .second] [(.long x0), (.ref o0)]))
  have S40 : ∀ t, Steps p.tables e below (T39.setTop (mkF m 73 #[.val (.ref o0), .val (.long ((rot (x0 + x3) (23 : Int32)) + x0)), .second, .val (.long (x1 <<< ((17 : Int32) &&& 0x3f).toInt64)), .second] [(.ref o0), (.long x0), (.ref o0)])) t → Steps p.tables e below (T39.setTop (mkF m 72 #[.val (.ref o0), .val (.long ((rot (x0 + x3) (23 : Int32)) + x0)), .second, .val (.long (x1 <<< ((17 : Int32) &&& 0x3f).toInt64)), .second] [(.long x0), (.ref o0)])) t := by
    intro t k
    show Steps p.tables e below (T39.setTop (mkF m 72 #[.val (.ref o0), .val (.long ((rot (x0 + x3) (23 : Int32)) + x0)), .second, .val (.long (x1 <<< ((17 : Int32) &&& 0x3f).toInt64)), .second] [(.long x0), (.ref o0)])) t
    refine XS.aloadN X39.here hx rfl (hb hby d4_72) rfl rfl ?_
    exact k
  refine OFin.go S40 ?_
  have F41 := Fw25.other W34 (Or.inr (slot_ne (Or.inl (hw _ (List.mem_of_getElem? (i := 16) rfl))) (Or.inl (hw _ (List.mem_of_getElem? (i := 12) rfl))) (by decide) (t := .long) (t' := .long) (by decide) (by decide)))
  obtain ⟨T42, X42, e42, st42⟩ := getF X39 hx hZ hown (host := "") (Or.inl (hw _ (List.mem_of_getElem? (i := 15) rfl))) Via.refl e39 F41 (g := (mkF m 73 #[.val (.ref o0), .val (.long ((rot (x0 + x3) (23 : Int32)) + x0)), .second, .val (.long (x1 <<< ((17 : Int32) &&& 0x3f).toInt64)), .second] [(.ref o0), (.long x0), (.ref o0)])) rfl rfl (hb hby d4_73)
  refine OFin.go st42 ?_
  show OFin p e below _ (T42.setTop (mkF m 76 #[.val (.ref o0), .val (.long ((rot (x0 + x3) (23 : Int32)) + x0)), .second, .val (.long (x1 <<< ((17 : Int32) &&& 0x3f).toInt64)), .second] [(.long (x3 ^^^ x1)), (.long x0), (.ref o0)]))
  have S43 : ∀ t, Steps p.tables e below (T42.setTop (mkF m 77 #[.val (.ref o0), .val (.long ((rot (x0 + x3) (23 : Int32)) + x0)), .second, .val (.long (x1 <<< ((17 : Int32) &&& 0x3f).toInt64)), .second] [(.long (x0 ^^^ (x3 ^^^ x1))), (.ref o0)])) t → Steps p.tables e below (T42.setTop (mkF m 76 #[.val (.ref o0), .val (.long ((rot (x0 + x3) (23 : Int32)) + x0)), .second, .val (.long (x1 <<< ((17 : Int32) &&& 0x3f).toInt64)), .second] [(.long (x3 ^^^ x1)), (.long x0), (.ref o0)])) t := by
    intro t k
    show Steps p.tables e below (T42.setTop (mkF m 76 #[.val (.ref o0), .val (.long ((rot (x0 + x3) (23 : Int32)) + x0)), .second, .val (.long (x1 <<< ((17 : Int32) &&& 0x3f).toInt64)), .second] [(.long (x3 ^^^ x1)), (.long x0), (.ref o0)])) t
    refine XS.lxor X42.here hx rfl (hb hby d4_76) rfl ?_
    exact k
  refine OFin.go S43 ?_
  have F44 := F33.wr W34
  obtain ⟨T45, h45, X45, e45, W45, st45⟩ := putF X42 hx hZ hown (host := "") (Or.inl (hw _ (List.mem_of_getElem? (i := 9) rfl))) Via.refl e42 F38 F44 (Or.inl (hw _ (List.mem_of_getElem? (i := 10) rfl))) (hw _ (List.mem_of_getElem? (i := 1) rfl)) (ty := .long) (by decide) rfl rfl (g := (mkF m 77 #[.val (.ref o0), .val (.long ((rot (x0 + x3) (23 : Int32)) + x0)), .second, .val (.long (x1 <<< ((17 : Int32) &&& 0x3f).toInt64)), .second] [(.long (x0 ^^^ (x3 ^^^ x1))), (.ref o0)])) rfl rfl (hb hby d4_77)
  have Fw45 := F38.same W45
  have N45 := Fr.snoc X45 N34 ge0
  have Z45 : n0 ≤ h45.size := Nat.le_trans Z34 (wr_le W45)
  have K45 := Keep.wr K34 W45 (Or.inl (List.mem_of_getElem? (i := 0) rfl))
  refine OFin.go st45 ?_
  show OFin p e below _ (T45.setTop (mkF m 80 #[.val (.ref o0), .val (.long ((rot (x0 + x3) (23 : Int32)) + x0)), .second, .val (.long (x1 <<< ((17 : Int32) &&& 0x3f).toInt64)), .second] []))
  have S46 : ∀ t, Steps p.tables e below (T45.setTop (mkF m 82 #[.val (.ref o0), .val (.long ((rot (x0 + x3) (23 : Int32)) + x0)), .second, .val (.long (x1 <<< ((17 : Int32) &&& 0x3f).toInt64)), .second] [(.ref o0), (.ref o0)])) t → Steps p.tables e below (T45.setTop (mkF m 80 #[.val (.ref o0), .val (.long ((rot (x0 + x3) (23 : Int32)) + x0)), .second, .val (.long (x1 <<< ((17 : Int32) &&& 0x3f).toInt64)), .second] [])) t := by
    intro t k
    show Steps p.tables e below (T45.setTop (mkF m 80 #[.val (.ref o0), .val (.long ((rot (x0 + x3) (23 : Int32)) + x0)), .second, .val (.long (x1 <<< ((17 : Int32) &&& 0x3f).toInt64)), .second] [])) t
    refine XS.aloadN X45.here hx rfl (hb hby d4_80) rfl rfl ?_
    show Steps p.tables e below (T45.setTop (mkF m 81 #[.val (.ref o0), .val (.long ((rot (x0 + x3) (23 : Int32)) + x0)), .second, .val (.long (x1 <<< ((17 : Int32) &&& 0x3f).toInt64)), .second] [(.ref o0)])) t
    refine XS.dup X45.here hx rfl (hb hby d4_81) rfl rfl ?_
    exact k
  refine OFin.go S46 ?_
  have F47 := F30.other W34 (Or.inr (slot_ne (Or.inl (hw _ (List.mem_of_getElem? (i := 14) rfl))) (Or.inl (hw _ (List.mem_of_getElem? (i := 12) rfl))) (by decide) (t := .long) (t' := .long) (by decide) (by decide)))
  have F48 := F47.other W45 (Or.inr (slot_ne (Or.inl (hw _ (List.mem_of_getElem? (i := 14) rfl))) (Or.inl (hw _ (List.mem_of_getElem? (i := 10) rfl))) (by decide) (t := .long) (t' := .long) (by decide) (by decide)))
  obtain ⟨T49, X49, e49, st49⟩ := getF X45 hx hZ hown (host := "") (Or.inl (hw _ (List.mem_of_getElem? (i := 13) rfl))) Via.refl e45 F48 (g := (mkF m 82 #[.val (.ref o0), .val (.long ((rot (x0 + x3) (23 : Int32)) + x0)), .second, .val (.long (x1 <<< ((17 : Int32) &&& 0x3f).toInt64)), .second] [(.ref o0), (.ref o0)])) rfl rfl (hb hby d4_82)
  refine OFin.go st49 ?_
  show OFin p e below _ (T49.setTop (mkF m 85 #[.val (.ref o0), .val (.long ((rot (x0 + x3) (23 : Int32)) + x0)), .second, .val (.long (x1 <<< ((17 : Int32) &&& 0x3f).toInt64)), .second] [(.long (x2 ^^^ x0)), (.ref o0)]))
  have S50 : ∀ t, Steps p.tables e below (T49.setTop (mkF m 87 #[.val (.ref o0), .val (.long ((rot (x0 + x3) (23 : Int32)) + x0)), .second, .val (.long (x1 <<< ((17 : Int32) &&& 0x3f).toInt64)), .second] [(.long ((x2 ^^^ x0) ^^^ (x1 <<< ((17 : Int32) &&& 0x3f).toInt64))), (.ref o0)])) t → Steps p.tables e below (T49.setTop (mkF m 85 #[.val (.ref o0), .val (.long ((rot (x0 + x3) (23 : Int32)) + x0)), .second, .val (.long (x1 <<< ((17 : Int32) &&& 0x3f).toInt64)), .second] [(.long (x2 ^^^ x0)), (.ref o0)])) t := by
    intro t k
    show Steps p.tables e below (T49.setTop (mkF m 85 #[.val (.ref o0), .val (.long ((rot (x0 + x3) (23 : Int32)) + x0)), .second, .val (.long (x1 <<< ((17 : Int32) &&& 0x3f).toInt64)), .second] [(.long (x2 ^^^ x0)), (.ref o0)])) t
    refine XS.lloadN X49.here hx rfl (hb hby d4_85) rfl ?_
    show Steps p.tables e below (T49.setTop (mkF m 86 #[.val (.ref o0), .val (.long ((rot (x0 + x3) (23 : Int32)) + x0)), .second, .val (.long (x1 <<< ((17 : Int32) &&& 0x3f).toInt64)), .second] [(.long (x1 <<< ((17 : Int32) &&& 0x3f).toInt64)), (.long (x2 ^^^ x0)), (.ref o0)])) t
    refine XS.lxor X49.here hx rfl (hb hby d4_86) rfl ?_
    exact k
  refine OFin.go S50 ?_
  have F51 := F44.wr W45
  obtain ⟨T52, h52, X52, e52, W52, st52⟩ := putF X49 hx hZ hown (host := "") (Or.inl (hw _ (List.mem_of_getElem? (i := 13) rfl))) Via.refl e49 F48 F51 (Or.inl (hw _ (List.mem_of_getElem? (i := 14) rfl))) (hw _ (List.mem_of_getElem? (i := 1) rfl)) (ty := .long) (by decide) rfl rfl (g := (mkF m 87 #[.val (.ref o0), .val (.long ((rot (x0 + x3) (23 : Int32)) + x0)), .second, .val (.long (x1 <<< ((17 : Int32) &&& 0x3f).toInt64)), .second] [(.long ((x2 ^^^ x0) ^^^ (x1 <<< ((17 : Int32) &&& 0x3f).toInt64))), (.ref o0)])) rfl rfl (hb hby d4_87)
  have Fw52 := F48.same W52
  have N52 := Fr.snoc X52 N45 ge0
  have Z52 : n0 ≤ h52.size := Nat.le_trans Z45 (wr_le W52)
  have K52 := Keep.wr K45 W52 (Or.inl (List.mem_of_getElem? (i := 0) rfl))
  refine OFin.go st52 ?_
  show OFin p e below _ (T52.setTop (mkF m 90 #[.val (.ref o0), .val (.long ((rot (x0 + x3) (23 : Int32)) + x0)), .second, .val (.long (x1 <<< ((17 : Int32) &&& 0x3f).toInt64)), .second] []))
  have S53 : ∀ t, Steps p.tables e below (T52.setTop (mkF m 92 #[.val (.ref o0), .val (.long ((rot (x0 + x3) (23 : Int32)) + x0)), .second, .val (.long (x1 <<< ((17 : Int32) &&& 0x3f).toInt64)), .second] [(.ref o0), (.ref o0)])) t → Steps p.tables e below (T52.setTop (mkF m 90 #[.val (.ref o0), .val (.long ((rot (x0 + x3) (23 : Int32)) + x0)), .second, .val (.long (x1 <<< ((17 : Int32) &&& 0x3f).toInt64)), .second] [])) t := by
    intro t k
    show Steps p.tables e below (T52.setTop (mkF m 90 #[.val (.ref o0), .val (.long ((rot (x0 + x3) (23 : Int32)) + x0)), .second, .val (.long (x1 <<< ((17 : Int32) &&& 0x3f).toInt64)), .second] [])) t
    refine XS.aloadN X52.here hx rfl (hb hby d4_90) rfl rfl ?_
    show Steps p.tables e below (T52.setTop (mkF m 91 #[.val (.ref o0), .val (.long ((rot (x0 + x3) (23 : Int32)) + x0)), .second, .val (.long (x1 <<< ((17 : Int32) &&& 0x3f).toInt64)), .second] [(.ref o0)])) t
    refine XS.aloadN X52.here hx rfl (hb hby d4_91) rfl rfl ?_
    exact k
  refine OFin.go S53 ?_
  have F54 := F41.other W45 (Or.inr (slot_ne (Or.inl (hw _ (List.mem_of_getElem? (i := 16) rfl))) (Or.inl (hw _ (List.mem_of_getElem? (i := 10) rfl))) (by decide) (t := .long) (t' := .long) (by decide) (by decide)))
  have F55 := F54.other W52 (Or.inr (slot_ne (Or.inl (hw _ (List.mem_of_getElem? (i := 16) rfl))) (Or.inl (hw _ (List.mem_of_getElem? (i := 14) rfl))) (by decide) (t := .long) (t' := .long) (by decide) (by decide)))
  obtain ⟨T56, X56, e56, st56⟩ := getF X52 hx hZ hown (host := "") (Or.inl (hw _ (List.mem_of_getElem? (i := 15) rfl))) Via.refl e52 F55 (g := (mkF m 92 #[.val (.ref o0), .val (.long ((rot (x0 + x3) (23 : Int32)) + x0)), .second, .val (.long (x1 <<< ((17 : Int32) &&& 0x3f).toInt64)), .second] [(.ref o0), (.ref o0)])) rfl rfl (hb hby d4_92)
  refine OFin.go st56 ?_
  show OFin p e below _ (T56.setTop (mkF m 95 #[.val (.ref o0), .val (.long ((rot (x0 + x3) (23 : Int32)) + x0)), .second, .val (.long (x1 <<< ((17 : Int32) &&& 0x3f).toInt64)), .second] [(.long (x3 ^^^ x1)), (.ref o0)]))
  have S57 : ∀ t, Steps p.tables e below (T56.setTop (mkF m 97 #[.val (.ref o0), .val (.long ((rot (x0 + x3) (23 : Int32)) + x0)), .second, .val (.long (x1 <<< ((17 : Int32) &&& 0x3f).toInt64)), .second] [(.int (45 : Int32)), (.long (x3 ^^^ x1)), (.ref o0)])) t → Steps p.tables e below (T56.setTop (mkF m 95 #[.val (.ref o0), .val (.long ((rot (x0 + x3) (23 : Int32)) + x0)), .second, .val (.long (x1 <<< ((17 : Int32) &&& 0x3f).toInt64)), .second] [(.long (x3 ^^^ x1)), (.ref o0)])) t := by
    intro t k
    show Steps p.tables e below (T56.setTop (mkF m 95 #[.val (.ref o0), .val (.long ((rot (x0 + x3) (23 : Int32)) + x0)), .second, .val (.long (x1 <<< ((17 : Int32) &&& 0x3f).toInt64)), .second] [(.long (x3 ^^^ x1)), (.ref o0)])) t
    refine XS.bipush X56.here hx rfl (hb hby d4_95) ?_
    exact k
  refine OFin.go S57 ?_
  obtain ⟨_, T58, Lc58, X58, hQ58, st58⟩ := callQ X56 hx hZ (y := (⟨"java/lang/Long", "rotateLeft", "(JI)J"⟩ : MethodName)) hown (hw _ (List.mem_of_getElem? (i := 29) rfl)) (hw _ (List.mem_of_getElem? (i := 30) rfl)) (hw _ (List.mem_of_getElem? (i := 31) rfl)) (hw _ (List.mem_of_getElem? (i := 32) rfl)) (by decide) (argsL := [(.long (x3 ^^^ x1)), (.int (45 : Int32))]) (rest := [(.ref o0)]) (rm5 l Z a0 hw [] (x3 ^^^ x1) (45 : Int32) h52 n0 Z52) (W := 1) (by decide) (by decide) e56 (g := (mkF m 97 #[.val (.ref o0), .val (.long ((rot (x0 + x3) (23 : Int32)) + x0)), .second, .val (.long (x1 <<< ((17 : Int32) &&& 0x3f).toInt64)), .second] [(.int (45 : Int32)), (.long (x3 ^^^ x1)), (.ref o0)])) rfl (by rw [hml]; rfl) (lenOf pd_0 rfl) rfl (by show 2 * 0 + _ ≤ _; exact Nat.le_of_eq rfl) (hb hby d4_97) (Nat.le_of_ble_eq_true rfl) (Nat.le_of_ble_eq_true rfl)
  obtain ⟨rfl, N58q, e58⟩ := hQ58
  have N58 := Fr.app N52 N58q
  refine OFin.go st58 ?_
  show OFin p e below _ (T58.setTop (mkF m 100 #[.val (.ref o0), .val (.long ((rot (x0 + x3) (23 : Int32)) + x0)), .second, .val (.long (x1 <<< ((17 : Int32) &&& 0x3f).toInt64)), .second] [(.long (rot (x3 ^^^ x1) (45 : Int32))), (.ref o0)]))
  have F59 := F51.wr W52
  obtain ⟨T60, h60, X60, e60, W60, st60⟩ := putF X58 hx hZ hown (host := "") (Or.inl (hw _ (List.mem_of_getElem? (i := 15) rfl))) Via.refl e58 F55 F59 (Or.inl (hw _ (List.mem_of_getElem? (i := 16) rfl))) (hw _ (List.mem_of_getElem? (i := 1) rfl)) (ty := .long) (by decide) rfl rfl (g := (mkF m 100 #[.val (.ref o0), .val (.long ((rot (x0 + x3) (23 : Int32)) + x0)), .second, .val (.long (x1 <<< ((17 : Int32) &&& 0x3f).toInt64)), .second] [(.long (rot (x3 ^^^ x1) (45 : Int32))), (.ref o0)])) rfl rfl (hb hby d4_100)
  have Fw60 := F55.same W60
  have N60 := Fr.snoc X60 N58 ge0
  have Z60 : n0 ≤ h60.size := Nat.le_trans Z52 (wr_le W60)
  have K60 := Keep.wr K52 W60 (Or.inl (List.mem_of_getElem? (i := 0) rfl))
  refine OFin.go st60 ?_
  show OFin p e below _ (T60.setTop (mkF m 103 #[.val (.ref o0), .val (.long ((rot (x0 + x3) (23 : Int32)) + x0)), .second, .val (.long (x1 <<< ((17 : Int32) &&& 0x3f).toInt64)), .second] []))
  have S61 : ∀ t, Steps p.tables e below (T60.setTop (mkF m 104 #[.val (.ref o0), .val (.long ((rot (x0 + x3) (23 : Int32)) + x0)), .second, .val (.long (x1 <<< ((17 : Int32) &&& 0x3f).toInt64)), .second] [(.long ((rot (x0 + x3) (23 : Int32)) + x0))])) t → Steps p.tables e below (T60.setTop (mkF m 103 #[.val (.ref o0), .val (.long ((rot (x0 + x3) (23 : Int32)) + x0)), .second, .val (.long (x1 <<< ((17 : Int32) &&& 0x3f).toInt64)), .second] [])) t := by
    intro t k
    show Steps p.tables e below (T60.setTop (mkF m 103 #[.val (.ref o0), .val (.long ((rot (x0 + x3) (23 : Int32)) + x0)), .second, .val (.long (x1 <<< ((17 : Int32) &&& 0x3f).toInt64)), .second] [])) t
    refine XS.lloadN X60.here hx rfl (hb hby d4_103) rfl ?_
    exact k
  refine OFin.go S61 ?_
  have F62 := Fw45.other W52 (Or.inr (slot_ne (Or.inl (hw _ (List.mem_of_getElem? (i := 10) rfl))) (Or.inl (hw _ (List.mem_of_getElem? (i := 14) rfl))) (by decide) (t := .long) (t' := .long) (by decide) (by decide)))
  have F63 := F62.other W60 (Or.inr (slot_ne (Or.inl (hw _ (List.mem_of_getElem? (i := 10) rfl))) (Or.inl (hw _ (List.mem_of_getElem? (i := 16) rfl))) (by decide) (t := .long) (t' := .long) (by decide) (by decide)))
  have F64 := Fw34.other W45 (Or.inr (slot_ne (Or.inl (hw _ (List.mem_of_getElem? (i := 12) rfl))) (Or.inl (hw _ (List.mem_of_getElem? (i := 10) rfl))) (by decide) (t := .long) (t' := .long) (by decide) (by decide)))
  have F65 := F64.other W52 (Or.inr (slot_ne (Or.inl (hw _ (List.mem_of_getElem? (i := 12) rfl))) (Or.inl (hw _ (List.mem_of_getElem? (i := 14) rfl))) (by decide) (t := .long) (t' := .long) (by decide) (by decide)))
  have F66 := F65.other W60 (Or.inr (slot_ne (Or.inl (hw _ (List.mem_of_getElem? (i := 12) rfl))) (Or.inl (hw _ (List.mem_of_getElem? (i := 16) rfl))) (by decide) (t := .long) (t' := .long) (by decide) (by decide)))
  have F67 := Fw52.other W60 (Or.inr (slot_ne (Or.inl (hw _ (List.mem_of_getElem? (i := 14) rfl))) (Or.inl (hw _ (List.mem_of_getElem? (i := 16) rfl))) (by decide) (t := .long) (t' := .long) (by decide) (by decide)))
  exact finJ X60 hx Bd.notSynchronized Bd.returns (hb hby d4_104) (by decide) (by decide) (by rw [e60]; exact ⟨rfl, N60, K60, F63, F66, F67, Fw60⟩)
theorem ef_rm0 (m : MethodId) (x0 : Int64) (x1 : Int64) (x2 : Int64) (x3 : Int64) : entryFrame m #[(.long x0), (.long x1), (.long x2), (.long x3)] maxLocals = mkF m 0 #[.val (.long x0), .second, .val (.long x1), .second, .val (.long x2), .second, .val (.long x3), .second, .unset, .unset, .unset, .unset, .unset] [] := by first | (simp [entryFrame, mkF, argsToLocals, Value.category, maxLocals]; done) | rfl
theorem pn_2 : plainName "com/example/genomatrix/genomatrix/Xoshiro256PlusPlusStatePinLaw" = true := by first | (simp [plainName, overriddenIn]; done) | decide +kernel
def Q_rm0 (Z : State) (x0 : Int64) (x1 : Int64) (x2 : Int64) (x3 : Int64)  (h0 : Heap) (n0 : Nat) (v : Option Value) (h : Heap) (L : List Loc) : Prop := v = some (.int (1 : Int32)) ∧ Fr n0 L
theorem pd_1 : parseMethodDescriptor "(JJJJ)V" = some ⟨[.long, .long, .long, .long], none⟩ := by decide +kernel
theorem pd_2 : parseMethodDescriptor "()[J" = some ⟨[], some (.array .long)⟩ := by decide +kernel
theorem pd_3 : parseMethodDescriptor "()J" = some ⟨[], some .long⟩ := by decide +kernel
set_option maxRecDepth 65536 in
set_option maxHeartbeats 40000000 in
theorem rm0 (l : Launch) (Z : State) (a0 : Array Value) (hw : ∀ d ∈ tables_1, d.before a0 Z = true) (ws : List Jvm.Cond) (x0 : Int64) (x1 : Int64) (x2 : Int64) (x3 : Int64)  (h0 : Heap) (n0 : Nat) (Z0 : n0 ≤ h0.size)  :
    MetFree l x (head1 (Jvm.Cond.code x code maxLocals ret :: ws) room_1) (fun a U => a = #[(.long x0), (.long x1), (.long x2), (.long x3)] ∧ Z.Warmed39 U.vm ∧ U.heap = h0) (fun _ _ _ _ _ => True) (fun _ U o U' => ∃ v L, o = .returned v ∧ (Q_rm0 Z x0 x1 x2 x3 h0 n0) v U'.heap L ∧ FrameEnd U o U' L 24 128) := by
  refine MetFree.of_bodySF (plainFor_of_name pn_2) hisR ?_
  intro p e s m args below meth c s₁ Bd hml0 hP hK
  obtain ⟨rfl, hZ, hh⟩ := hP
  have hx := Bd.exec
  have hby := Bd.bytes
  have hml : c.maxLocals = 13 := hml0
  have hown : s.vm.findClass "com/example/genomatrix/genomatrix/Xoshiro256PlusPlusStatePinLaw" = some m.cls := findClass_of_methodNamed Bd.named
  have hnm := (name_of_methodNamed Bd.named Bd.method).1
  have X0 : Stand p l e room_1 s m #[(.long x0), (.long x1), (.long x2), (.long x3)] below meth c s₁ [] 0 0 := Stand.of_body Bd
  have e0 : s₁.heap = h0 := by rw [← hh, Bd.state]; rfl
  have N0 := Fr.nil n0
  show OFin p e below (ORet (Q_rm0 Z x0 x1 x2 x3 h0 n0) s 24 128) (s₁.setTop (entryFrame m #[(.long x0), (.long x1), (.long x2), (.long x3)] maxLocals))
  refine OFin.go (fun t k => castTop (ef_rm0 m x0 x1 x2 x3) k) ?_
  show OFin p e below (ORet (Q_rm0 Z x0 x1 x2 x3 h0 n0) s 24 128) (s₁.setTop (mkF m 0 #[.val (.long x0), .second, .val (.long x1), .second, .val (.long x2), .second, .val (.long x3), .second, .unset, .unset, .unset, .unset, .unset] []))
  obtain ⟨T1, h1, X1, e1, E1, A1, D1, -, st1⟩ := newO X0 hx hZ hown (hw _ (List.mem_of_getElem? (i := 0) rfl)) (hw _ (List.mem_of_getElem? (i := 1) rfl)) (hw _ (List.mem_of_getElem? (i := 2) rfl)) e0 (g := (mkF m 0 #[.val (.long x0), .second, .val (.long x1), .second, .val (.long x2), .second, .val (.long x3), .second, .unset, .unset, .unset, .unset, .unset] [])) rfl (hb hby at_0) (Nat.le_of_ble_eq_true rfl) (Nat.le_of_ble_eq_true rfl)
  obtain ⟨b1, g1⟩ : ∃ z, z = h0.size := ⟨_, rfl⟩
  rw [← g1] at A1 D1 st1
  have ge1 : n0 ≤ b1 := Nat.le_trans Z0 (Nat.le_of_eq g1.symm)
  have Z1 : n0 ≤ h1.size := Nat.le_trans Z0 E1.1
  have F1_s0 : Fld Z h1 b1 "com/example/genomatrix/genomatrix/Xoshiro256PlusPlus" "s0" "J" (.long (0 : Int64)) := D1 (Or.inl (hw _ (List.mem_of_getElem? (i := 10) rfl))) (ty := .long) (by decide)
  have F1_s1 : Fld Z h1 b1 "com/example/genomatrix/genomatrix/Xoshiro256PlusPlus" "s1" "J" (.long (0 : Int64)) := D1 (Or.inl (hw _ (List.mem_of_getElem? (i := 12) rfl))) (ty := .long) (by decide)
  have F1_s2 : Fld Z h1 b1 "com/example/genomatrix/genomatrix/Xoshiro256PlusPlus" "s2" "J" (.long (0 : Int64)) := D1 (Or.inl (hw _ (List.mem_of_getElem? (i := 14) rfl))) (ty := .long) (by decide)
  have F1_s3 : Fld Z h1 b1 "com/example/genomatrix/genomatrix/Xoshiro256PlusPlus" "s3" "J" (.long (0 : Int64)) := D1 (Or.inl (hw _ (List.mem_of_getElem? (i := 16) rfl))) (ty := .long) (by decide)
  refine OFin.go st1 ?_
  show OFin p e below _ (T1.setTop (mkF m 3 #[.val (.long x0), .second, .val (.long x1), .second, .val (.long x2), .second, .val (.long x3), .second, .unset, .unset, .unset, .unset, .unset] [(.ref b1)]))
  have S2 : ∀ t, Steps p.tables e below (T1.setTop (mkF m 10 #[.val (.long x0), .second, .val (.long x1), .second, .val (.long x2), .second, .val (.long x3), .second, .unset, .unset, .unset, .unset, .unset] [(.long x3), (.long x2), (.long x1), (.long x0), (.ref b1), (.ref b1)])) t → Steps p.tables e below (T1.setTop (mkF m 3 #[.val (.long x0), .second, .val (.long x1), .second, .val (.long x2), .second, .val (.long x3), .second, .unset, .unset, .unset, .unset, .unset] [(.ref b1)])) t := by
    intro t k
    show Steps p.tables e below (T1.setTop (mkF m 3 #[.val (.long x0), .second, .val (.long x1), .second, .val (.long x2), .second, .val (.long x3), .second, .unset, .unset, .unset, .unset, .unset] [(.ref b1)])) t
    refine XS.dup X1.here hx rfl (hb hby at_3) rfl rfl ?_
    show Steps p.tables e below (T1.setTop (mkF m 4 #[.val (.long x0), .second, .val (.long x1), .second, .val (.long x2), .second, .val (.long x3), .second, .unset, .unset, .unset, .unset, .unset] [(.ref b1), (.ref b1)])) t
    refine XS.lloadN X1.here hx rfl (hb hby at_4) rfl ?_
    show Steps p.tables e below (T1.setTop (mkF m 5 #[.val (.long x0), .second, .val (.long x1), .second, .val (.long x2), .second, .val (.long x3), .second, .unset, .unset, .unset, .unset, .unset] [(.long x0), (.ref b1), (.ref b1)])) t
    refine XS.lloadN X1.here hx rfl (hb hby at_5) rfl ?_
    show Steps p.tables e below (T1.setTop (mkF m 6 #[.val (.long x0), .second, .val (.long x1), .second, .val (.long x2), .second, .val (.long x3), .second, .unset, .unset, .unset, .unset, .unset] [(.long x1), (.long x0), (.ref b1), (.ref b1)])) t
    refine XS.lload X1.here hx rfl (hb hby at_6) rfl ?_
    show Steps p.tables e below (T1.setTop (mkF m 8 #[.val (.long x0), .second, .val (.long x1), .second, .val (.long x2), .second, .val (.long x3), .second, .unset, .unset, .unset, .unset, .unset] [(.long x2), (.long x1), (.long x0), (.ref b1), (.ref b1)])) t
    refine XS.lload X1.here hx rfl (hb hby at_8) rfl ?_
    exact k
  refine OFin.go S2 ?_
  obtain ⟨_, T3, Lc3, X3, hQ3, st3⟩ := specQ X1 hx hZ (y := (⟨"com/example/genomatrix/genomatrix/Xoshiro256PlusPlus", "<init>", "(JJJJ)V"⟩ : MethodName)) rfl hown (hw _ (List.mem_of_getElem? (i := 3) rfl)) (hw _ (List.mem_of_getElem? (i := 4) rfl)) (hw _ (List.mem_of_getElem? (i := 2) rfl)) (hw _ (List.mem_of_getElem? (i := 5) rfl)) (by decide) (a := b1) (argsL := [(.long x0), (.long x1), (.long x2), (.long x3)]) (rest := [(.ref b1)]) (rm1 l Z a0 hw [] b1 x0 x1 x2 x3 h1 n0 Z1 A1 ge1 F1_s0 F1_s1 F1_s2 F1_s3) (W := 1) (by decide) (by decide) e1 (g := (mkF m 10 #[.val (.long x0), .second, .val (.long x1), .second, .val (.long x2), .second, .val (.long x3), .second, .unset, .unset, .unset, .unset, .unset] [(.long x3), (.long x2), (.long x1), (.long x0), (.ref b1), (.ref b1)])) rfl (by rw [hml]; rfl) (lenOf pd_1 rfl) rfl (by show 2 * 0 + _ ≤ _; exact Nat.le_of_eq rfl) (hb hby at_10) (Nat.le_of_ble_eq_true rfl) (Nat.le_of_ble_eq_true rfl)
  obtain ⟨rfl, N3q, K3q, F3_s0, F3_s1, F3_s2, F3_s3⟩ := hQ3
  have Z3 : n0 ≤ T3.heap.size := Nat.le_trans Z1 K3q.1
  have N3 := Fr.app N0 N3q
  refine OFin.go st3 ?_
  show OFin p e below _ (T3.setTop (mkF m 13 #[.val (.long x0), .second, .val (.long x1), .second, .val (.long x2), .second, .val (.long x3), .second, .unset, .unset, .unset, .unset, .unset] [(.ref b1)]))
  have S4 : ∀ t, Steps p.tables e below (T3.setTop (mkF m 17 #[.val (.long x0), .second, .val (.long x1), .second, .val (.long x2), .second, .val (.long x3), .second, .val (.ref b1), .unset, .unset, .unset, .unset] [(.ref b1)])) t → Steps p.tables e below (T3.setTop (mkF m 13 #[.val (.long x0), .second, .val (.long x1), .second, .val (.long x2), .second, .val (.long x3), .second, .unset, .unset, .unset, .unset, .unset] [(.ref b1)])) t := by
    intro t k
    show Steps p.tables e below (T3.setTop (mkF m 13 #[.val (.long x0), .second, .val (.long x1), .second, .val (.long x2), .second, .val (.long x3), .second, .unset, .unset, .unset, .unset, .unset] [(.ref b1)])) t
    refine XS.astore X3.here hx rfl (hb hby at_13) rfl rfl (l' := #[.val (.long x0), .second, .val (.long x1), .second, .val (.long x2), .second, .val (.long x3), .second, .val (.ref b1), .unset, .unset, .unset, .unset]) rfl ?_
    show Steps p.tables e below (T3.setTop (mkF m 15 #[.val (.long x0), .second, .val (.long x1), .second, .val (.long x2), .second, .val (.long x3), .second, .val (.ref b1), .unset, .unset, .unset, .unset] [])) t
    refine XS.aload X3.here hx rfl (hb hby at_15) rfl rfl ?_
    exact k
  refine OFin.go S4 ?_
  have F6 := A1.keep K3q
  obtain ⟨_, T5, Lc5, X5, hQ5, st5⟩ := virtQ X3 hx hZ (y := (⟨"com/example/genomatrix/genomatrix/Xoshiro256PlusPlus", "state", "()[J"⟩ : MethodName)) hown (hw _ (List.mem_of_getElem? (i := 17) rfl)) (hw _ (List.mem_of_getElem? (i := 19) rfl)) (hw _ (List.mem_of_getElem? (i := 2) rfl)) (hw _ (List.mem_of_getElem? (i := 21) rfl)) (hw _ (List.mem_of_getElem? (i := 18) rfl)) (hw _ (List.mem_of_getElem? (i := 20) rfl)) (by decide) F6 (argsL := []) (rest := []) (rm3 l Z a0 hw [] b1 x0 x1 x2 x3 T3.heap n0 Z3 F6 F3_s0 F3_s1 F3_s2 F3_s3) (W := 0) (by decide) (by decide) rfl (g := (mkF m 17 #[.val (.long x0), .second, .val (.long x1), .second, .val (.long x2), .second, .val (.long x3), .second, .val (.ref b1), .unset, .unset, .unset, .unset] [(.ref b1)])) rfl (by rw [hml]; rfl) (lenOf pd_2 rfl) rfl (by show 2 * 0 + _ ≤ _; exact Nat.le_of_eq rfl) (hb hby at_17) (Nat.le_of_ble_eq_true rfl) (Nat.le_of_ble_eq_true rfl)
  obtain ⟨b5, rfl, N5q, K5q, hb5, V5⟩ := hQ5
  have q7 : b1 ≠ b5 := Nat.ne_of_lt (Nat.lt_of_lt_of_le F6.lt hb5)
  have ge5 : n0 ≤ b5 := Nat.le_trans Z3 hb5
  have Z5 : n0 ≤ T5.heap.size := Nat.le_trans Z3 K5q.1
  have N5 := Fr.app N3 N5q
  refine OFin.go st5 ?_
  show OFin p e below _ (T5.setTop (mkF m 20 #[.val (.long x0), .second, .val (.long x1), .second, .val (.long x2), .second, .val (.long x3), .second, .val (.ref b1), .unset, .unset, .unset, .unset] [(.ref b5)]))
  have S8 : ∀ t, Steps p.tables e below (T5.setTop (mkF m 24 #[.val (.long x0), .second, .val (.long x1), .second, .val (.long x2), .second, .val (.long x3), .second, .val (.ref b1), .val (.ref b5), .unset, .unset, .unset] [(.ref b5)])) t → Steps p.tables e below (T5.setTop (mkF m 20 #[.val (.long x0), .second, .val (.long x1), .second, .val (.long x2), .second, .val (.long x3), .second, .val (.ref b1), .unset, .unset, .unset, .unset] [(.ref b5)])) t := by
    intro t k
    show Steps p.tables e below (T5.setTop (mkF m 20 #[.val (.long x0), .second, .val (.long x1), .second, .val (.long x2), .second, .val (.long x3), .second, .val (.ref b1), .unset, .unset, .unset, .unset] [(.ref b5)])) t
    refine XS.astore X5.here hx rfl (hb hby at_20) rfl rfl (l' := #[.val (.long x0), .second, .val (.long x1), .second, .val (.long x2), .second, .val (.long x3), .second, .val (.ref b1), .val (.ref b5), .unset, .unset, .unset]) rfl ?_
    show Steps p.tables e below (T5.setTop (mkF m 22 #[.val (.long x0), .second, .val (.long x1), .second, .val (.long x2), .second, .val (.long x3), .second, .val (.ref b1), .val (.ref b5), .unset, .unset, .unset] [])) t
    refine XS.aload X5.here hx rfl (hb hby at_22) rfl rfl ?_
    exact k
  refine OFin.go S8 ?_
  refine OFin.go (fun t k => ?_ : ∀ t, Steps p.tables e below (T5.setTop (mkF m 27 #[.val (.long x0), .second, .val (.long x1), .second, .val (.long x2), .second, .val (.long x3), .second, .val (.ref b1), .val (.ref b5), .unset, .unset, .unset] [])) t → Steps p.tables e below (T5.setTop (mkF m 24 #[.val (.long x0), .second, .val (.long x1), .second, .val (.long x2), .second, .val (.long x3), .second, .val (.ref b1), .val (.ref b5), .unset, .unset, .unset] [(.ref b5)])) t) ?_
  · show Steps p.tables e below (T5.setTop (mkF m 24 #[.val (.long x0), .second, .val (.long x1), .second, .val (.long x2), .second, .val (.long x3), .second, .val (.ref b1), .val (.ref b5), .unset, .unset, .unset] [(.ref b5)])) t
    refine XS.ifnullNo X5.here hx rfl (hb hby at_24) rfl ?_
    exact k
  have S9 : ∀ t, Steps p.tables e below (T5.setTop (mkF m 31 #[.val (.long x0), .second, .val (.long x1), .second, .val (.long x2), .second, .val (.long x3), .second, .val (.ref b1), .val (.ref b5), .unset, .unset, .unset] [(.int (4 : Int32)), (.int (4 : Int32))])) t → Steps p.tables e below (T5.setTop (mkF m 27 #[.val (.long x0), .second, .val (.long x1), .second, .val (.long x2), .second, .val (.long x3), .second, .val (.ref b1), .val (.ref b5), .unset, .unset, .unset] [])) t := by
    intro t k
    show Steps p.tables e below (T5.setTop (mkF m 27 #[.val (.long x0), .second, .val (.long x1), .second, .val (.long x2), .second, .val (.long x3), .second, .val (.ref b1), .val (.ref b5), .unset, .unset, .unset] [])) t
    refine XS.aload X5.here hx rfl (hb hby at_27) rfl rfl ?_
    show Steps p.tables e below (T5.setTop (mkF m 29 #[.val (.long x0), .second, .val (.long x1), .second, .val (.long x2), .second, .val (.long x3), .second, .val (.ref b1), .val (.ref b5), .unset, .unset, .unset] [(.ref b5)])) t
    refine alen X5 hx hZ rfl V5 (z := (4 : Int32)) rfl (g := (mkF m 29 #[.val (.long x0), .second, .val (.long x1), .second, .val (.long x2), .second, .val (.long x3), .second, .val (.ref b1), .val (.ref b5), .unset, .unset, .unset] [(.ref b5)])) rfl rfl (hb hby at_29) ?_
    show Steps p.tables e below (T5.setTop (mkF m 30 #[.val (.long x0), .second, .val (.long x1), .second, .val (.long x2), .second, .val (.long x3), .second, .val (.ref b1), .val (.ref b5), .unset, .unset, .unset] [(.int (4 : Int32))])) t
    refine XS.iconst X5.here hx rfl (hb hby at_30) ?_
    exact k
  refine OFin.go S9 ?_
  have S10 : ∀ t, Steps p.tables e below (T5.setTop (mkF m 36 #[.val (.long x0), .second, .val (.long x1), .second, .val (.long x2), .second, .val (.long x3), .second, .val (.ref b1), .val (.ref b5), .unset, .unset, .unset] [])) t → Steps p.tables e below (T5.setTop (mkF m 31 #[.val (.long x0), .second, .val (.long x1), .second, .val (.long x2), .second, .val (.long x3), .second, .val (.ref b1), .val (.ref b5), .unset, .unset, .unset] [(.int (4 : Int32)), (.int (4 : Int32))])) t := by
    intro t k
    show Steps p.tables e below (T5.setTop (mkF m 31 #[.val (.long x0), .second, .val (.long x1), .second, .val (.long x2), .second, .val (.long x3), .second, .val (.ref b1), .val (.ref b5), .unset, .unset, .unset] [(.int (4 : Int32)), (.int (4 : Int32))])) t
    refine XS.icmpYes X5.here hx rfl (pc0 := 31) (pc' := 36) rfl (hb hby at_31) rfl (teq (by decide)).1 (by decide) (by decide) ?_
    exact k
  refine OFin.go S10 ?_
  have S11 : ∀ t, Steps p.tables e below (T5.setTop (mkF m 42 #[.val (.long x0), .second, .val (.long x1), .second, .val (.long x2), .second, .val (.long x3), .second, .val (.ref b1), .val (.ref b5), .unset, .unset, .unset] [(.int (lcmpW x0 x0))])) t → Steps p.tables e below (T5.setTop (mkF m 36 #[.val (.long x0), .second, .val (.long x1), .second, .val (.long x2), .second, .val (.long x3), .second, .val (.ref b1), .val (.ref b5), .unset, .unset, .unset] [])) t := by
    intro t k
    show Steps p.tables e below (T5.setTop (mkF m 36 #[.val (.long x0), .second, .val (.long x1), .second, .val (.long x2), .second, .val (.long x3), .second, .val (.ref b1), .val (.ref b5), .unset, .unset, .unset] [])) t
    refine XS.aload X5.here hx rfl (hb hby at_36) rfl rfl ?_
    show Steps p.tables e below (T5.setTop (mkF m 38 #[.val (.long x0), .second, .val (.long x1), .second, .val (.long x2), .second, .val (.long x3), .second, .val (.ref b1), .val (.ref b5), .unset, .unset, .unset] [(.ref b5)])) t
    refine XS.iconst X5.here hx rfl (hb hby at_38) ?_
    show Steps p.tables e below (T5.setTop (mkF m 39 #[.val (.long x0), .second, .val (.long x1), .second, .val (.long x2), .second, .val (.long x3), .second, .val (.ref b1), .val (.ref b5), .unset, .unset, .unset] [(.int (0 : Int32)), (.ref b5)])) t
    refine rdJ X5 hx hZ rfl V5 (i := 0) (by decide) rfl (by decide) (x := (.long x0)) rfl (g := (mkF m 39 #[.val (.long x0), .second, .val (.long x1), .second, .val (.long x2), .second, .val (.long x3), .second, .val (.ref b1), .val (.ref b5), .unset, .unset, .unset] [(.int (0 : Int32)), (.ref b5)])) rfl rfl (hb hby at_39) ?_
    show Steps p.tables e below (T5.setTop (mkF m 40 #[.val (.long x0), .second, .val (.long x1), .second, .val (.long x2), .second, .val (.long x3), .second, .val (.ref b1), .val (.ref b5), .unset, .unset, .unset] [(.long x0)])) t
    refine XS.lloadN X5.here hx rfl (hb hby at_40) rfl ?_
    show Steps p.tables e below (T5.setTop (mkF m 41 #[.val (.long x0), .second, .val (.long x1), .second, .val (.long x2), .second, .val (.long x3), .second, .val (.ref b1), .val (.ref b5), .unset, .unset, .unset] [(.long x0), (.long x0)])) t
    refine XS.lcmp X5.here hx rfl (hb hby at_41) rfl ?_
    exact k
  refine OFin.go S11 ?_
  have S12 : ∀ t, Steps p.tables e below (T5.setTop (mkF m 45 #[.val (.long x0), .second, .val (.long x1), .second, .val (.long x2), .second, .val (.long x3), .second, .val (.ref b1), .val (.ref b5), .unset, .unset, .unset] [])) t → Steps p.tables e below (T5.setTop (mkF m 42 #[.val (.long x0), .second, .val (.long x1), .second, .val (.long x2), .second, .val (.long x3), .second, .val (.ref b1), .val (.ref b5), .unset, .unset, .unset] [(.int (lcmpW x0 x0))])) t := by
    intro t k
    show Steps p.tables e below (T5.setTop (mkF m 42 #[.val (.long x0), .second, .val (.long x1), .second, .val (.long x2), .second, .val (.long x3), .second, .val (.ref b1), .val (.ref b5), .unset, .unset, .unset] [(.int (lcmpW x0 x0))])) t
    refine XS.ifNo X5.here hx rfl (hb hby at_42) rfl (lc_ne_f rfl) ?_
    exact k
  refine OFin.go S12 ?_
  have S13 : ∀ t, Steps p.tables e below (T5.setTop (mkF m 51 #[.val (.long x0), .second, .val (.long x1), .second, .val (.long x2), .second, .val (.long x3), .second, .val (.ref b1), .val (.ref b5), .unset, .unset, .unset] [(.int (lcmpW x1 x1))])) t → Steps p.tables e below (T5.setTop (mkF m 45 #[.val (.long x0), .second, .val (.long x1), .second, .val (.long x2), .second, .val (.long x3), .second, .val (.ref b1), .val (.ref b5), .unset, .unset, .unset] [])) t := by
    intro t k
    show Steps p.tables e below (T5.setTop (mkF m 45 #[.val (.long x0), .second, .val (.long x1), .second, .val (.long x2), .second, .val (.long x3), .second, .val (.ref b1), .val (.ref b5), .unset, .unset, .unset] [])) t
    refine XS.aload X5.here hx rfl (hb hby at_45) rfl rfl ?_
    show Steps p.tables e below (T5.setTop (mkF m 47 #[.val (.long x0), .second, .val (.long x1), .second, .val (.long x2), .second, .val (.long x3), .second, .val (.ref b1), .val (.ref b5), .unset, .unset, .unset] [(.ref b5)])) t
    refine XS.iconst X5.here hx rfl (hb hby at_47) ?_
    show Steps p.tables e below (T5.setTop (mkF m 48 #[.val (.long x0), .second, .val (.long x1), .second, .val (.long x2), .second, .val (.long x3), .second, .val (.ref b1), .val (.ref b5), .unset, .unset, .unset] [(.int (1 : Int32)), (.ref b5)])) t
    refine rdJ X5 hx hZ rfl V5 (i := 1) (by decide) rfl (by decide) (x := (.long x1)) rfl (g := (mkF m 48 #[.val (.long x0), .second, .val (.long x1), .second, .val (.long x2), .second, .val (.long x3), .second, .val (.ref b1), .val (.ref b5), .unset, .unset, .unset] [(.int (1 : Int32)), (.ref b5)])) rfl rfl (hb hby at_48) ?_
    show Steps p.tables e below (T5.setTop (mkF m 49 #[.val (.long x0), .second, .val (.long x1), .second, .val (.long x2), .second, .val (.long x3), .second, .val (.ref b1), .val (.ref b5), .unset, .unset, .unset] [(.long x1)])) t
    refine XS.lloadN X5.here hx rfl (hb hby at_49) rfl ?_
    show Steps p.tables e below (T5.setTop (mkF m 50 #[.val (.long x0), .second, .val (.long x1), .second, .val (.long x2), .second, .val (.long x3), .second, .val (.ref b1), .val (.ref b5), .unset, .unset, .unset] [(.long x1), (.long x1)])) t
    refine XS.lcmp X5.here hx rfl (hb hby at_50) rfl ?_
    exact k
  refine OFin.go S13 ?_
  have S14 : ∀ t, Steps p.tables e below (T5.setTop (mkF m 54 #[.val (.long x0), .second, .val (.long x1), .second, .val (.long x2), .second, .val (.long x3), .second, .val (.ref b1), .val (.ref b5), .unset, .unset, .unset] [])) t → Steps p.tables e below (T5.setTop (mkF m 51 #[.val (.long x0), .second, .val (.long x1), .second, .val (.long x2), .second, .val (.long x3), .second, .val (.ref b1), .val (.ref b5), .unset, .unset, .unset] [(.int (lcmpW x1 x1))])) t := by
    intro t k
    show Steps p.tables e below (T5.setTop (mkF m 51 #[.val (.long x0), .second, .val (.long x1), .second, .val (.long x2), .second, .val (.long x3), .second, .val (.ref b1), .val (.ref b5), .unset, .unset, .unset] [(.int (lcmpW x1 x1))])) t
    refine XS.ifNo X5.here hx rfl (hb hby at_51) rfl (lc_ne_f rfl) ?_
    exact k
  refine OFin.go S14 ?_
  have S15 : ∀ t, Steps p.tables e below (T5.setTop (mkF m 61 #[.val (.long x0), .second, .val (.long x1), .second, .val (.long x2), .second, .val (.long x3), .second, .val (.ref b1), .val (.ref b5), .unset, .unset, .unset] [(.int (lcmpW x2 x2))])) t → Steps p.tables e below (T5.setTop (mkF m 54 #[.val (.long x0), .second, .val (.long x1), .second, .val (.long x2), .second, .val (.long x3), .second, .val (.ref b1), .val (.ref b5), .unset, .unset, .unset] [])) t := by
    intro t k
    show Steps p.tables e below (T5.setTop (mkF m 54 #[.val (.long x0), .second, .val (.long x1), .second, .val (.long x2), .second, .val (.long x3), .second, .val (.ref b1), .val (.ref b5), .unset, .unset, .unset] [])) t
    refine XS.aload X5.here hx rfl (hb hby at_54) rfl rfl ?_
    show Steps p.tables e below (T5.setTop (mkF m 56 #[.val (.long x0), .second, .val (.long x1), .second, .val (.long x2), .second, .val (.long x3), .second, .val (.ref b1), .val (.ref b5), .unset, .unset, .unset] [(.ref b5)])) t
    refine XS.iconst X5.here hx rfl (hb hby at_56) ?_
    show Steps p.tables e below (T5.setTop (mkF m 57 #[.val (.long x0), .second, .val (.long x1), .second, .val (.long x2), .second, .val (.long x3), .second, .val (.ref b1), .val (.ref b5), .unset, .unset, .unset] [(.int (2 : Int32)), (.ref b5)])) t
    refine rdJ X5 hx hZ rfl V5 (i := 2) (by decide) rfl (by decide) (x := (.long x2)) rfl (g := (mkF m 57 #[.val (.long x0), .second, .val (.long x1), .second, .val (.long x2), .second, .val (.long x3), .second, .val (.ref b1), .val (.ref b5), .unset, .unset, .unset] [(.int (2 : Int32)), (.ref b5)])) rfl rfl (hb hby at_57) ?_
    show Steps p.tables e below (T5.setTop (mkF m 58 #[.val (.long x0), .second, .val (.long x1), .second, .val (.long x2), .second, .val (.long x3), .second, .val (.ref b1), .val (.ref b5), .unset, .unset, .unset] [(.long x2)])) t
    refine XS.lload X5.here hx rfl (hb hby at_58) rfl ?_
    show Steps p.tables e below (T5.setTop (mkF m 60 #[.val (.long x0), .second, .val (.long x1), .second, .val (.long x2), .second, .val (.long x3), .second, .val (.ref b1), .val (.ref b5), .unset, .unset, .unset] [(.long x2), (.long x2)])) t
    refine XS.lcmp X5.here hx rfl (hb hby at_60) rfl ?_
    exact k
  refine OFin.go S15 ?_
  have S16 : ∀ t, Steps p.tables e below (T5.setTop (mkF m 64 #[.val (.long x0), .second, .val (.long x1), .second, .val (.long x2), .second, .val (.long x3), .second, .val (.ref b1), .val (.ref b5), .unset, .unset, .unset] [])) t → Steps p.tables e below (T5.setTop (mkF m 61 #[.val (.long x0), .second, .val (.long x1), .second, .val (.long x2), .second, .val (.long x3), .second, .val (.ref b1), .val (.ref b5), .unset, .unset, .unset] [(.int (lcmpW x2 x2))])) t := by
    intro t k
    show Steps p.tables e below (T5.setTop (mkF m 61 #[.val (.long x0), .second, .val (.long x1), .second, .val (.long x2), .second, .val (.long x3), .second, .val (.ref b1), .val (.ref b5), .unset, .unset, .unset] [(.int (lcmpW x2 x2))])) t
    refine XS.ifNo X5.here hx rfl (hb hby at_61) rfl (lc_ne_f rfl) ?_
    exact k
  refine OFin.go S16 ?_
  have S17 : ∀ t, Steps p.tables e below (T5.setTop (mkF m 71 #[.val (.long x0), .second, .val (.long x1), .second, .val (.long x2), .second, .val (.long x3), .second, .val (.ref b1), .val (.ref b5), .unset, .unset, .unset] [(.int (lcmpW x3 x3))])) t → Steps p.tables e below (T5.setTop (mkF m 64 #[.val (.long x0), .second, .val (.long x1), .second, .val (.long x2), .second, .val (.long x3), .second, .val (.ref b1), .val (.ref b5), .unset, .unset, .unset] [])) t := by
    intro t k
    show Steps p.tables e below (T5.setTop (mkF m 64 #[.val (.long x0), .second, .val (.long x1), .second, .val (.long x2), .second, .val (.long x3), .second, .val (.ref b1), .val (.ref b5), .unset, .unset, .unset] [])) t
    refine XS.aload X5.here hx rfl (hb hby at_64) rfl rfl ?_
    show Steps p.tables e below (T5.setTop (mkF m 66 #[.val (.long x0), .second, .val (.long x1), .second, .val (.long x2), .second, .val (.long x3), .second, .val (.ref b1), .val (.ref b5), .unset, .unset, .unset] [(.ref b5)])) t
    refine XS.iconst X5.here hx rfl (hb hby at_66) ?_
    show Steps p.tables e below (T5.setTop (mkF m 67 #[.val (.long x0), .second, .val (.long x1), .second, .val (.long x2), .second, .val (.long x3), .second, .val (.ref b1), .val (.ref b5), .unset, .unset, .unset] [(.int (3 : Int32)), (.ref b5)])) t
    refine rdJ X5 hx hZ rfl V5 (i := 3) (by decide) rfl (by decide) (x := (.long x3)) rfl (g := (mkF m 67 #[.val (.long x0), .second, .val (.long x1), .second, .val (.long x2), .second, .val (.long x3), .second, .val (.ref b1), .val (.ref b5), .unset, .unset, .unset] [(.int (3 : Int32)), (.ref b5)])) rfl rfl (hb hby at_67) ?_
    show Steps p.tables e below (T5.setTop (mkF m 68 #[.val (.long x0), .second, .val (.long x1), .second, .val (.long x2), .second, .val (.long x3), .second, .val (.ref b1), .val (.ref b5), .unset, .unset, .unset] [(.long x3)])) t
    refine XS.lload X5.here hx rfl (hb hby at_68) rfl ?_
    show Steps p.tables e below (T5.setTop (mkF m 70 #[.val (.long x0), .second, .val (.long x1), .second, .val (.long x2), .second, .val (.long x3), .second, .val (.ref b1), .val (.ref b5), .unset, .unset, .unset] [(.long x3), (.long x3)])) t
    refine XS.lcmp X5.here hx rfl (hb hby at_70) rfl ?_
    exact k
  refine OFin.go S17 ?_
  have S18 : ∀ t, Steps p.tables e below (T5.setTop (mkF m 76 #[.val (.long x0), .second, .val (.long x1), .second, .val (.long x2), .second, .val (.long x3), .second, .val (.ref b1), .val (.ref b5), .unset, .unset, .unset] [])) t → Steps p.tables e below (T5.setTop (mkF m 71 #[.val (.long x0), .second, .val (.long x1), .second, .val (.long x2), .second, .val (.long x3), .second, .val (.ref b1), .val (.ref b5), .unset, .unset, .unset] [(.int (lcmpW x3 x3))])) t := by
    intro t k
    show Steps p.tables e below (T5.setTop (mkF m 71 #[.val (.long x0), .second, .val (.long x1), .second, .val (.long x2), .second, .val (.long x3), .second, .val (.ref b1), .val (.ref b5), .unset, .unset, .unset] [(.int (lcmpW x3 x3))])) t
    refine XS.ifYes X5.here hx rfl (pc0 := 71) (pc' := 76) rfl (hb hby at_71) rfl (lc_eq_t rfl) (by decide) (by decide) ?_
    exact k
  refine OFin.go S18 ?_
  have S19 : ∀ t, Steps p.tables e below (T5.setTop (mkF m 87 #[.val (.long x0), .second, .val (.long x1), .second, .val (.long x2), .second, .val (.long x3), .second, .val (.ref b1), .val (.ref b5), .unset, .unset, .unset] [(.long (x0 ^^^ (-1 : Int64))), (.int (0 : Int32)), (.ref b5)])) t → Steps p.tables e below (T5.setTop (mkF m 76 #[.val (.long x0), .second, .val (.long x1), .second, .val (.long x2), .second, .val (.long x3), .second, .val (.ref b1), .val (.ref b5), .unset, .unset, .unset] [])) t := by
    intro t k
    show Steps p.tables e below (T5.setTop (mkF m 76 #[.val (.long x0), .second, .val (.long x1), .second, .val (.long x2), .second, .val (.long x3), .second, .val (.ref b1), .val (.ref b5), .unset, .unset, .unset] [])) t
    refine XS.aload X5.here hx rfl (hb hby at_76) rfl rfl ?_
    show Steps p.tables e below (T5.setTop (mkF m 78 #[.val (.long x0), .second, .val (.long x1), .second, .val (.long x2), .second, .val (.long x3), .second, .val (.ref b1), .val (.ref b5), .unset, .unset, .unset] [(.ref b5)])) t
    refine XS.iconst X5.here hx rfl (hb hby at_78) ?_
    show Steps p.tables e below (T5.setTop (mkF m 79 #[.val (.long x0), .second, .val (.long x1), .second, .val (.long x2), .second, .val (.long x3), .second, .val (.ref b1), .val (.ref b5), .unset, .unset, .unset] [(.int (0 : Int32)), (.ref b5)])) t
    refine XS.aload X5.here hx rfl (hb hby at_79) rfl rfl ?_
    show Steps p.tables e below (T5.setTop (mkF m 81 #[.val (.long x0), .second, .val (.long x1), .second, .val (.long x2), .second, .val (.long x3), .second, .val (.ref b1), .val (.ref b5), .unset, .unset, .unset] [(.ref b5), (.int (0 : Int32)), (.ref b5)])) t
    refine XS.iconst X5.here hx rfl (hb hby at_81) ?_
    show Steps p.tables e below (T5.setTop (mkF m 82 #[.val (.long x0), .second, .val (.long x1), .second, .val (.long x2), .second, .val (.long x3), .second, .val (.ref b1), .val (.ref b5), .unset, .unset, .unset] [(.int (0 : Int32)), (.ref b5), (.int (0 : Int32)), (.ref b5)])) t
    refine rdJ X5 hx hZ rfl V5 (i := 0) (by decide) rfl (by decide) (x := (.long x0)) rfl (g := (mkF m 82 #[.val (.long x0), .second, .val (.long x1), .second, .val (.long x2), .second, .val (.long x3), .second, .val (.ref b1), .val (.ref b5), .unset, .unset, .unset] [(.int (0 : Int32)), (.ref b5), (.int (0 : Int32)), (.ref b5)])) rfl rfl (hb hby at_82) ?_
    show Steps p.tables e below (T5.setTop (mkF m 83 #[.val (.long x0), .second, .val (.long x1), .second, .val (.long x2), .second, .val (.long x3), .second, .val (.ref b1), .val (.ref b5), .unset, .unset, .unset] [(.long x0), (.int (0 : Int32)), (.ref b5)])) t
    refine X5.ldc2Long hx hown (mvT hZ (hw _ (List.mem_of_getElem? (i := 23) rfl))) (g := (mkF m 83 #[.val (.long x0), .second, .val (.long x1), .second, .val (.long x2), .second, .val (.long x3), .second, .val (.ref b1), .val (.ref b5), .unset, .unset, .unset] [(.long x0), (.int (0 : Int32)), (.ref b5)])) rfl (hb hby at_83) _ ?_
    show Steps p.tables e below (T5.setTop (mkF m 86 #[.val (.long x0), .second, .val (.long x1), .second, .val (.long x2), .second, .val (.long x3), .second, .val (.ref b1), .val (.ref b5), .unset, .unset, .unset] [(.long (-1 : Int64)), (.long x0), (.int (0 : Int32)), (.ref b5)])) t
    refine XS.lxor X5.here hx rfl (hb hby at_86) rfl ?_
    exact k
  refine OFin.go S19 ?_
  obtain ⟨T20, h20, X20, e20, W20, st20⟩ := wrJ X5 hx hZ rfl V5 (i := 0) (by decide) rfl (by decide) (g := (mkF m 87 #[.val (.long x0), .second, .val (.long x1), .second, .val (.long x2), .second, .val (.long x3), .second, .val (.ref b1), .val (.ref b5), .unset, .unset, .unset] [(.long (x0 ^^^ (-1 : Int64))), (.int (0 : Int32)), (.ref b5)])) rfl rfl (hb hby at_87)
  have V20 := V5.set W20
  have N20 := Fr.snoc X20 N5 ge5
  have Z20 : n0 ≤ h20.size := Nat.le_trans Z5 (wr_le W20)
  refine OFin.go st20 ?_
  show OFin p e below _ (T20.setTop (mkF m 88 #[.val (.long x0), .second, .val (.long x1), .second, .val (.long x2), .second, .val (.long x3), .second, .val (.ref b1), .val (.ref b5), .unset, .unset, .unset] []))
  have S21 : ∀ t, Steps p.tables e below (T20.setTop (mkF m 99 #[.val (.long x0), .second, .val (.long x1), .second, .val (.long x2), .second, .val (.long x3), .second, .val (.ref b1), .val (.ref b5), .unset, .unset, .unset] [(.long (x1 ^^^ (-1 : Int64))), (.int (1 : Int32)), (.ref b5)])) t → Steps p.tables e below (T20.setTop (mkF m 88 #[.val (.long x0), .second, .val (.long x1), .second, .val (.long x2), .second, .val (.long x3), .second, .val (.ref b1), .val (.ref b5), .unset, .unset, .unset] [])) t := by
    intro t k
    show Steps p.tables e below (T20.setTop (mkF m 88 #[.val (.long x0), .second, .val (.long x1), .second, .val (.long x2), .second, .val (.long x3), .second, .val (.ref b1), .val (.ref b5), .unset, .unset, .unset] [])) t
    refine XS.aload X20.here hx rfl (hb hby at_88) rfl rfl ?_
    show Steps p.tables e below (T20.setTop (mkF m 90 #[.val (.long x0), .second, .val (.long x1), .second, .val (.long x2), .second, .val (.long x3), .second, .val (.ref b1), .val (.ref b5), .unset, .unset, .unset] [(.ref b5)])) t
    refine XS.iconst X20.here hx rfl (hb hby at_90) ?_
    show Steps p.tables e below (T20.setTop (mkF m 91 #[.val (.long x0), .second, .val (.long x1), .second, .val (.long x2), .second, .val (.long x3), .second, .val (.ref b1), .val (.ref b5), .unset, .unset, .unset] [(.int (1 : Int32)), (.ref b5)])) t
    refine XS.aload X20.here hx rfl (hb hby at_91) rfl rfl ?_
    show Steps p.tables e below (T20.setTop (mkF m 93 #[.val (.long x0), .second, .val (.long x1), .second, .val (.long x2), .second, .val (.long x3), .second, .val (.ref b1), .val (.ref b5), .unset, .unset, .unset] [(.ref b5), (.int (1 : Int32)), (.ref b5)])) t
    refine XS.iconst X20.here hx rfl (hb hby at_93) ?_
    show Steps p.tables e below (T20.setTop (mkF m 94 #[.val (.long x0), .second, .val (.long x1), .second, .val (.long x2), .second, .val (.long x3), .second, .val (.ref b1), .val (.ref b5), .unset, .unset, .unset] [(.int (1 : Int32)), (.ref b5), (.int (1 : Int32)), (.ref b5)])) t
    refine rdJ X20 hx hZ e20 V20 (i := 1) (by decide) rfl (by decide) (x := (.long x1)) rfl (g := (mkF m 94 #[.val (.long x0), .second, .val (.long x1), .second, .val (.long x2), .second, .val (.long x3), .second, .val (.ref b1), .val (.ref b5), .unset, .unset, .unset] [(.int (1 : Int32)), (.ref b5), (.int (1 : Int32)), (.ref b5)])) rfl rfl (hb hby at_94) ?_
    show Steps p.tables e below (T20.setTop (mkF m 95 #[.val (.long x0), .second, .val (.long x1), .second, .val (.long x2), .second, .val (.long x3), .second, .val (.ref b1), .val (.ref b5), .unset, .unset, .unset] [(.long x1), (.int (1 : Int32)), (.ref b5)])) t
    refine X20.ldc2Long hx hown (mvT hZ (hw _ (List.mem_of_getElem? (i := 23) rfl))) (g := (mkF m 95 #[.val (.long x0), .second, .val (.long x1), .second, .val (.long x2), .second, .val (.long x3), .second, .val (.ref b1), .val (.ref b5), .unset, .unset, .unset] [(.long x1), (.int (1 : Int32)), (.ref b5)])) rfl (hb hby at_95) _ ?_
    show Steps p.tables e below (T20.setTop (mkF m 98 #[.val (.long x0), .second, .val (.long x1), .second, .val (.long x2), .second, .val (.long x3), .second, .val (.ref b1), .val (.ref b5), .unset, .unset, .unset] [(.long (-1 : Int64)), (.long x1), (.int (1 : Int32)), (.ref b5)])) t
    refine XS.lxor X20.here hx rfl (hb hby at_98) rfl ?_
    exact k
  refine OFin.go S21 ?_
  obtain ⟨T22, h22, X22, e22, W22, st22⟩ := wrJ X20 hx hZ e20 V20 (i := 1) (by decide) rfl (by decide) (g := (mkF m 99 #[.val (.long x0), .second, .val (.long x1), .second, .val (.long x2), .second, .val (.long x3), .second, .val (.ref b1), .val (.ref b5), .unset, .unset, .unset] [(.long (x1 ^^^ (-1 : Int64))), (.int (1 : Int32)), (.ref b5)])) rfl rfl (hb hby at_99)
  have V22 := V20.set W22
  have N22 := Fr.snoc X22 N20 ge5
  have Z22 : n0 ≤ h22.size := Nat.le_trans Z20 (wr_le W22)
  refine OFin.go st22 ?_
  show OFin p e below _ (T22.setTop (mkF m 100 #[.val (.long x0), .second, .val (.long x1), .second, .val (.long x2), .second, .val (.long x3), .second, .val (.ref b1), .val (.ref b5), .unset, .unset, .unset] []))
  have S23 : ∀ t, Steps p.tables e below (T22.setTop (mkF m 111 #[.val (.long x0), .second, .val (.long x1), .second, .val (.long x2), .second, .val (.long x3), .second, .val (.ref b1), .val (.ref b5), .unset, .unset, .unset] [(.long (x2 ^^^ (-1 : Int64))), (.int (2 : Int32)), (.ref b5)])) t → Steps p.tables e below (T22.setTop (mkF m 100 #[.val (.long x0), .second, .val (.long x1), .second, .val (.long x2), .second, .val (.long x3), .second, .val (.ref b1), .val (.ref b5), .unset, .unset, .unset] [])) t := by
    intro t k
    show Steps p.tables e below (T22.setTop (mkF m 100 #[.val (.long x0), .second, .val (.long x1), .second, .val (.long x2), .second, .val (.long x3), .second, .val (.ref b1), .val (.ref b5), .unset, .unset, .unset] [])) t
    refine XS.aload X22.here hx rfl (hb hby at_100) rfl rfl ?_
    show Steps p.tables e below (T22.setTop (mkF m 102 #[.val (.long x0), .second, .val (.long x1), .second, .val (.long x2), .second, .val (.long x3), .second, .val (.ref b1), .val (.ref b5), .unset, .unset, .unset] [(.ref b5)])) t
    refine XS.iconst X22.here hx rfl (hb hby at_102) ?_
    show Steps p.tables e below (T22.setTop (mkF m 103 #[.val (.long x0), .second, .val (.long x1), .second, .val (.long x2), .second, .val (.long x3), .second, .val (.ref b1), .val (.ref b5), .unset, .unset, .unset] [(.int (2 : Int32)), (.ref b5)])) t
    refine XS.aload X22.here hx rfl (hb hby at_103) rfl rfl ?_
    show Steps p.tables e below (T22.setTop (mkF m 105 #[.val (.long x0), .second, .val (.long x1), .second, .val (.long x2), .second, .val (.long x3), .second, .val (.ref b1), .val (.ref b5), .unset, .unset, .unset] [(.ref b5), (.int (2 : Int32)), (.ref b5)])) t
    refine XS.iconst X22.here hx rfl (hb hby at_105) ?_
    show Steps p.tables e below (T22.setTop (mkF m 106 #[.val (.long x0), .second, .val (.long x1), .second, .val (.long x2), .second, .val (.long x3), .second, .val (.ref b1), .val (.ref b5), .unset, .unset, .unset] [(.int (2 : Int32)), (.ref b5), (.int (2 : Int32)), (.ref b5)])) t
    refine rdJ X22 hx hZ e22 V22 (i := 2) (by decide) rfl (by decide) (x := (.long x2)) rfl (g := (mkF m 106 #[.val (.long x0), .second, .val (.long x1), .second, .val (.long x2), .second, .val (.long x3), .second, .val (.ref b1), .val (.ref b5), .unset, .unset, .unset] [(.int (2 : Int32)), (.ref b5), (.int (2 : Int32)), (.ref b5)])) rfl rfl (hb hby at_106) ?_
    show Steps p.tables e below (T22.setTop (mkF m 107 #[.val (.long x0), .second, .val (.long x1), .second, .val (.long x2), .second, .val (.long x3), .second, .val (.ref b1), .val (.ref b5), .unset, .unset, .unset] [(.long x2), (.int (2 : Int32)), (.ref b5)])) t
    refine X22.ldc2Long hx hown (mvT hZ (hw _ (List.mem_of_getElem? (i := 23) rfl))) (g := (mkF m 107 #[.val (.long x0), .second, .val (.long x1), .second, .val (.long x2), .second, .val (.long x3), .second, .val (.ref b1), .val (.ref b5), .unset, .unset, .unset] [(.long x2), (.int (2 : Int32)), (.ref b5)])) rfl (hb hby at_107) _ ?_
    show Steps p.tables e below (T22.setTop (mkF m 110 #[.val (.long x0), .second, .val (.long x1), .second, .val (.long x2), .second, .val (.long x3), .second, .val (.ref b1), .val (.ref b5), .unset, .unset, .unset] [(.long (-1 : Int64)), (.long x2), (.int (2 : Int32)), (.ref b5)])) t
    refine XS.lxor X22.here hx rfl (hb hby at_110) rfl ?_
    exact k
  refine OFin.go S23 ?_
  obtain ⟨T24, h24, X24, e24, W24, st24⟩ := wrJ X22 hx hZ e22 V22 (i := 2) (by decide) rfl (by decide) (g := (mkF m 111 #[.val (.long x0), .second, .val (.long x1), .second, .val (.long x2), .second, .val (.long x3), .second, .val (.ref b1), .val (.ref b5), .unset, .unset, .unset] [(.long (x2 ^^^ (-1 : Int64))), (.int (2 : Int32)), (.ref b5)])) rfl rfl (hb hby at_111)
  have V24 := V22.set W24
  have N24 := Fr.snoc X24 N22 ge5
  have Z24 : n0 ≤ h24.size := Nat.le_trans Z22 (wr_le W24)
  refine OFin.go st24 ?_
  show OFin p e below _ (T24.setTop (mkF m 112 #[.val (.long x0), .second, .val (.long x1), .second, .val (.long x2), .second, .val (.long x3), .second, .val (.ref b1), .val (.ref b5), .unset, .unset, .unset] []))
  have S25 : ∀ t, Steps p.tables e below (T24.setTop (mkF m 123 #[.val (.long x0), .second, .val (.long x1), .second, .val (.long x2), .second, .val (.long x3), .second, .val (.ref b1), .val (.ref b5), .unset, .unset, .unset] [(.long (x3 ^^^ (-1 : Int64))), (.int (3 : Int32)), (.ref b5)])) t → Steps p.tables e below (T24.setTop (mkF m 112 #[.val (.long x0), .second, .val (.long x1), .second, .val (.long x2), .second, .val (.long x3), .second, .val (.ref b1), .val (.ref b5), .unset, .unset, .unset] [])) t := by
    intro t k
    show Steps p.tables e below (T24.setTop (mkF m 112 #[.val (.long x0), .second, .val (.long x1), .second, .val (.long x2), .second, .val (.long x3), .second, .val (.ref b1), .val (.ref b5), .unset, .unset, .unset] [])) t
    refine XS.aload X24.here hx rfl (hb hby at_112) rfl rfl ?_
    show Steps p.tables e below (T24.setTop (mkF m 114 #[.val (.long x0), .second, .val (.long x1), .second, .val (.long x2), .second, .val (.long x3), .second, .val (.ref b1), .val (.ref b5), .unset, .unset, .unset] [(.ref b5)])) t
    refine XS.iconst X24.here hx rfl (hb hby at_114) ?_
    show Steps p.tables e below (T24.setTop (mkF m 115 #[.val (.long x0), .second, .val (.long x1), .second, .val (.long x2), .second, .val (.long x3), .second, .val (.ref b1), .val (.ref b5), .unset, .unset, .unset] [(.int (3 : Int32)), (.ref b5)])) t
    refine XS.aload X24.here hx rfl (hb hby at_115) rfl rfl ?_
    show Steps p.tables e below (T24.setTop (mkF m 117 #[.val (.long x0), .second, .val (.long x1), .second, .val (.long x2), .second, .val (.long x3), .second, .val (.ref b1), .val (.ref b5), .unset, .unset, .unset] [(.ref b5), (.int (3 : Int32)), (.ref b5)])) t
    refine XS.iconst X24.here hx rfl (hb hby at_117) ?_
    show Steps p.tables e below (T24.setTop (mkF m 118 #[.val (.long x0), .second, .val (.long x1), .second, .val (.long x2), .second, .val (.long x3), .second, .val (.ref b1), .val (.ref b5), .unset, .unset, .unset] [(.int (3 : Int32)), (.ref b5), (.int (3 : Int32)), (.ref b5)])) t
    refine rdJ X24 hx hZ e24 V24 (i := 3) (by decide) rfl (by decide) (x := (.long x3)) rfl (g := (mkF m 118 #[.val (.long x0), .second, .val (.long x1), .second, .val (.long x2), .second, .val (.long x3), .second, .val (.ref b1), .val (.ref b5), .unset, .unset, .unset] [(.int (3 : Int32)), (.ref b5), (.int (3 : Int32)), (.ref b5)])) rfl rfl (hb hby at_118) ?_
    show Steps p.tables e below (T24.setTop (mkF m 119 #[.val (.long x0), .second, .val (.long x1), .second, .val (.long x2), .second, .val (.long x3), .second, .val (.ref b1), .val (.ref b5), .unset, .unset, .unset] [(.long x3), (.int (3 : Int32)), (.ref b5)])) t
    refine X24.ldc2Long hx hown (mvT hZ (hw _ (List.mem_of_getElem? (i := 23) rfl))) (g := (mkF m 119 #[.val (.long x0), .second, .val (.long x1), .second, .val (.long x2), .second, .val (.long x3), .second, .val (.ref b1), .val (.ref b5), .unset, .unset, .unset] [(.long x3), (.int (3 : Int32)), (.ref b5)])) rfl (hb hby at_119) _ ?_
    show Steps p.tables e below (T24.setTop (mkF m 122 #[.val (.long x0), .second, .val (.long x1), .second, .val (.long x2), .second, .val (.long x3), .second, .val (.ref b1), .val (.ref b5), .unset, .unset, .unset] [(.long (-1 : Int64)), (.long x3), (.int (3 : Int32)), (.ref b5)])) t
    refine XS.lxor X24.here hx rfl (hb hby at_122) rfl ?_
    exact k
  refine OFin.go S25 ?_
  obtain ⟨T26, h26, X26, e26, W26, st26⟩ := wrJ X24 hx hZ e24 V24 (i := 3) (by decide) rfl (by decide) (g := (mkF m 123 #[.val (.long x0), .second, .val (.long x1), .second, .val (.long x2), .second, .val (.long x3), .second, .val (.ref b1), .val (.ref b5), .unset, .unset, .unset] [(.long (x3 ^^^ (-1 : Int64))), (.int (3 : Int32)), (.ref b5)])) rfl rfl (hb hby at_123)
  have V26 := V24.set W26
  have N26 := Fr.snoc X26 N24 ge5
  have Z26 : n0 ≤ h26.size := Nat.le_trans Z24 (wr_le W26)
  refine OFin.go st26 ?_
  show OFin p e below _ (T26.setTop (mkF m 124 #[.val (.long x0), .second, .val (.long x1), .second, .val (.long x2), .second, .val (.long x3), .second, .val (.ref b1), .val (.ref b5), .unset, .unset, .unset] []))
  have S27 : ∀ t, Steps p.tables e below (T26.setTop (mkF m 126 #[.val (.long x0), .second, .val (.long x1), .second, .val (.long x2), .second, .val (.long x3), .second, .val (.ref b1), .val (.ref b5), .unset, .unset, .unset] [(.ref b1)])) t → Steps p.tables e below (T26.setTop (mkF m 124 #[.val (.long x0), .second, .val (.long x1), .second, .val (.long x2), .second, .val (.long x3), .second, .val (.ref b1), .val (.ref b5), .unset, .unset, .unset] [])) t := by
    intro t k
    show Steps p.tables e below (T26.setTop (mkF m 124 #[.val (.long x0), .second, .val (.long x1), .second, .val (.long x2), .second, .val (.long x3), .second, .val (.ref b1), .val (.ref b5), .unset, .unset, .unset] [])) t
    refine XS.aload X26.here hx rfl (hb hby at_124) rfl rfl ?_
    exact k
  refine OFin.go S27 ?_
  have F29 := F3_s0.keep K5q nin0
  have F30 := F29.other W20 (Or.inl q7)
  have F31 := F30.other W22 (Or.inl q7)
  have F32 := F31.other W24 (Or.inl q7)
  have F33 := F32.other W26 (Or.inl q7)
  have F34 := F3_s1.keep K5q nin0
  have F35 := F34.other W20 (Or.inl q7)
  have F36 := F35.other W22 (Or.inl q7)
  have F37 := F36.other W24 (Or.inl q7)
  have F38 := F37.other W26 (Or.inl q7)
  have F39 := F3_s2.keep K5q nin0
  have F40 := F39.other W20 (Or.inl q7)
  have F41 := F40.other W22 (Or.inl q7)
  have F42 := F41.other W24 (Or.inl q7)
  have F43 := F42.other W26 (Or.inl q7)
  have F44 := F3_s3.keep K5q nin0
  have F45 := F44.other W20 (Or.inl q7)
  have F46 := F45.other W22 (Or.inl q7)
  have F47 := F46.other W24 (Or.inl q7)
  have F48 := F47.other W26 (Or.inl q7)
  have F49 := F6.keep K5q
  have F50 := F49.wr W20
  have F51 := F50.wr W22
  have F52 := F51.wr W24
  have F53 := F52.wr W26
  obtain ⟨_, T28, Lc28, X28, hQ28, st28⟩ := virtQ X26 hx hZ (y := (⟨"com/example/genomatrix/genomatrix/Xoshiro256PlusPlus", "state", "()[J"⟩ : MethodName)) hown (hw _ (List.mem_of_getElem? (i := 17) rfl)) (hw _ (List.mem_of_getElem? (i := 19) rfl)) (hw _ (List.mem_of_getElem? (i := 2) rfl)) (hw _ (List.mem_of_getElem? (i := 21) rfl)) (hw _ (List.mem_of_getElem? (i := 18) rfl)) (hw _ (List.mem_of_getElem? (i := 20) rfl)) (by decide) F53 (argsL := []) (rest := []) (rm3 l Z a0 hw [] b1 x0 x1 x2 x3 h26 n0 Z26 F53 F33 F38 F43 F48) (W := 0) (by decide) (by decide) e26 (g := (mkF m 126 #[.val (.long x0), .second, .val (.long x1), .second, .val (.long x2), .second, .val (.long x3), .second, .val (.ref b1), .val (.ref b5), .unset, .unset, .unset] [(.ref b1)])) rfl (by rw [hml]; rfl) (lenOf pd_2 rfl) rfl (by show 2 * 0 + _ ≤ _; exact Nat.le_of_eq rfl) (hb hby at_126) (Nat.le_of_ble_eq_true rfl) (Nat.le_of_ble_eq_true rfl)
  obtain ⟨b28, rfl, N28q, K28q, hb28, V28⟩ := hQ28
  have q54 : b1 ≠ b28 := Nat.ne_of_lt (Nat.lt_of_lt_of_le F53.lt hb28)
  have q55 : b5 ≠ b28 := Nat.ne_of_lt (Nat.lt_of_lt_of_le V26.lt hb28)
  have ge28 : n0 ≤ b28 := Nat.le_trans Z26 hb28
  have Z28 : n0 ≤ T28.heap.size := Nat.le_trans Z26 K28q.1
  have N28 := Fr.app N26 N28q
  refine OFin.go st28 ?_
  show OFin p e below _ (T28.setTop (mkF m 129 #[.val (.long x0), .second, .val (.long x1), .second, .val (.long x2), .second, .val (.long x3), .second, .val (.ref b1), .val (.ref b5), .unset, .unset, .unset] [(.ref b28)]))
  have S56 : ∀ t, Steps p.tables e below (T28.setTop (mkF m 133 #[.val (.long x0), .second, .val (.long x1), .second, .val (.long x2), .second, .val (.long x3), .second, .val (.ref b1), .val (.ref b5), .val (.ref b28), .unset, .unset] [(.ref b28)])) t → Steps p.tables e below (T28.setTop (mkF m 129 #[.val (.long x0), .second, .val (.long x1), .second, .val (.long x2), .second, .val (.long x3), .second, .val (.ref b1), .val (.ref b5), .unset, .unset, .unset] [(.ref b28)])) t := by
    intro t k
    show Steps p.tables e below (T28.setTop (mkF m 129 #[.val (.long x0), .second, .val (.long x1), .second, .val (.long x2), .second, .val (.long x3), .second, .val (.ref b1), .val (.ref b5), .unset, .unset, .unset] [(.ref b28)])) t
    refine XS.astore X28.here hx rfl (hb hby at_129) rfl rfl (l' := #[.val (.long x0), .second, .val (.long x1), .second, .val (.long x2), .second, .val (.long x3), .second, .val (.ref b1), .val (.ref b5), .val (.ref b28), .unset, .unset]) rfl ?_
    show Steps p.tables e below (T28.setTop (mkF m 131 #[.val (.long x0), .second, .val (.long x1), .second, .val (.long x2), .second, .val (.long x3), .second, .val (.ref b1), .val (.ref b5), .val (.ref b28), .unset, .unset] [])) t
    refine XS.aload X28.here hx rfl (hb hby at_131) rfl rfl ?_
    exact k
  refine OFin.go S56 ?_
  refine OFin.go (fun t k => ?_ : ∀ t, Steps p.tables e below (T28.setTop (mkF m 136 #[.val (.long x0), .second, .val (.long x1), .second, .val (.long x2), .second, .val (.long x3), .second, .val (.ref b1), .val (.ref b5), .val (.ref b28), .unset, .unset] [])) t → Steps p.tables e below (T28.setTop (mkF m 133 #[.val (.long x0), .second, .val (.long x1), .second, .val (.long x2), .second, .val (.long x3), .second, .val (.ref b1), .val (.ref b5), .val (.ref b28), .unset, .unset] [(.ref b28)])) t) ?_
  · show Steps p.tables e below (T28.setTop (mkF m 133 #[.val (.long x0), .second, .val (.long x1), .second, .val (.long x2), .second, .val (.long x3), .second, .val (.ref b1), .val (.ref b5), .val (.ref b28), .unset, .unset] [(.ref b28)])) t
    refine XS.ifnullNo X28.here hx rfl (hb hby at_133) rfl ?_
    exact k
  have S57 : ∀ t, Steps p.tables e below (T28.setTop (mkF m 140 #[.val (.long x0), .second, .val (.long x1), .second, .val (.long x2), .second, .val (.long x3), .second, .val (.ref b1), .val (.ref b5), .val (.ref b28), .unset, .unset] [(.int (4 : Int32)), (.int (4 : Int32))])) t → Steps p.tables e below (T28.setTop (mkF m 136 #[.val (.long x0), .second, .val (.long x1), .second, .val (.long x2), .second, .val (.long x3), .second, .val (.ref b1), .val (.ref b5), .val (.ref b28), .unset, .unset] [])) t := by
    intro t k
    show Steps p.tables e below (T28.setTop (mkF m 136 #[.val (.long x0), .second, .val (.long x1), .second, .val (.long x2), .second, .val (.long x3), .second, .val (.ref b1), .val (.ref b5), .val (.ref b28), .unset, .unset] [])) t
    refine XS.aload X28.here hx rfl (hb hby at_136) rfl rfl ?_
    show Steps p.tables e below (T28.setTop (mkF m 138 #[.val (.long x0), .second, .val (.long x1), .second, .val (.long x2), .second, .val (.long x3), .second, .val (.ref b1), .val (.ref b5), .val (.ref b28), .unset, .unset] [(.ref b28)])) t
    refine alen X28 hx hZ rfl V28 (z := (4 : Int32)) rfl (g := (mkF m 138 #[.val (.long x0), .second, .val (.long x1), .second, .val (.long x2), .second, .val (.long x3), .second, .val (.ref b1), .val (.ref b5), .val (.ref b28), .unset, .unset] [(.ref b28)])) rfl rfl (hb hby at_138) ?_
    show Steps p.tables e below (T28.setTop (mkF m 139 #[.val (.long x0), .second, .val (.long x1), .second, .val (.long x2), .second, .val (.long x3), .second, .val (.ref b1), .val (.ref b5), .val (.ref b28), .unset, .unset] [(.int (4 : Int32))])) t
    refine XS.iconst X28.here hx rfl (hb hby at_139) ?_
    exact k
  refine OFin.go S57 ?_
  have S58 : ∀ t, Steps p.tables e below (T28.setTop (mkF m 145 #[.val (.long x0), .second, .val (.long x1), .second, .val (.long x2), .second, .val (.long x3), .second, .val (.ref b1), .val (.ref b5), .val (.ref b28), .unset, .unset] [])) t → Steps p.tables e below (T28.setTop (mkF m 140 #[.val (.long x0), .second, .val (.long x1), .second, .val (.long x2), .second, .val (.long x3), .second, .val (.ref b1), .val (.ref b5), .val (.ref b28), .unset, .unset] [(.int (4 : Int32)), (.int (4 : Int32))])) t := by
    intro t k
    show Steps p.tables e below (T28.setTop (mkF m 140 #[.val (.long x0), .second, .val (.long x1), .second, .val (.long x2), .second, .val (.long x3), .second, .val (.ref b1), .val (.ref b5), .val (.ref b28), .unset, .unset] [(.int (4 : Int32)), (.int (4 : Int32))])) t
    refine XS.icmpYes X28.here hx rfl (pc0 := 140) (pc' := 145) rfl (hb hby at_140) rfl (teq (by decide)).1 (by decide) (by decide) ?_
    exact k
  refine OFin.go S58 ?_
  have S59 : ∀ t, Steps p.tables e below (T28.setTop (mkF m 151 #[.val (.long x0), .second, .val (.long x1), .second, .val (.long x2), .second, .val (.long x3), .second, .val (.ref b1), .val (.ref b5), .val (.ref b28), .unset, .unset] [(.int (lcmpW x0 x0))])) t → Steps p.tables e below (T28.setTop (mkF m 145 #[.val (.long x0), .second, .val (.long x1), .second, .val (.long x2), .second, .val (.long x3), .second, .val (.ref b1), .val (.ref b5), .val (.ref b28), .unset, .unset] [])) t := by
    intro t k
    show Steps p.tables e below (T28.setTop (mkF m 145 #[.val (.long x0), .second, .val (.long x1), .second, .val (.long x2), .second, .val (.long x3), .second, .val (.ref b1), .val (.ref b5), .val (.ref b28), .unset, .unset] [])) t
    refine XS.aload X28.here hx rfl (hb hby at_145) rfl rfl ?_
    show Steps p.tables e below (T28.setTop (mkF m 147 #[.val (.long x0), .second, .val (.long x1), .second, .val (.long x2), .second, .val (.long x3), .second, .val (.ref b1), .val (.ref b5), .val (.ref b28), .unset, .unset] [(.ref b28)])) t
    refine XS.iconst X28.here hx rfl (hb hby at_147) ?_
    show Steps p.tables e below (T28.setTop (mkF m 148 #[.val (.long x0), .second, .val (.long x1), .second, .val (.long x2), .second, .val (.long x3), .second, .val (.ref b1), .val (.ref b5), .val (.ref b28), .unset, .unset] [(.int (0 : Int32)), (.ref b28)])) t
    refine rdJ X28 hx hZ rfl V28 (i := 0) (by decide) rfl (by decide) (x := (.long x0)) rfl (g := (mkF m 148 #[.val (.long x0), .second, .val (.long x1), .second, .val (.long x2), .second, .val (.long x3), .second, .val (.ref b1), .val (.ref b5), .val (.ref b28), .unset, .unset] [(.int (0 : Int32)), (.ref b28)])) rfl rfl (hb hby at_148) ?_
    show Steps p.tables e below (T28.setTop (mkF m 149 #[.val (.long x0), .second, .val (.long x1), .second, .val (.long x2), .second, .val (.long x3), .second, .val (.ref b1), .val (.ref b5), .val (.ref b28), .unset, .unset] [(.long x0)])) t
    refine XS.lloadN X28.here hx rfl (hb hby at_149) rfl ?_
    show Steps p.tables e below (T28.setTop (mkF m 150 #[.val (.long x0), .second, .val (.long x1), .second, .val (.long x2), .second, .val (.long x3), .second, .val (.ref b1), .val (.ref b5), .val (.ref b28), .unset, .unset] [(.long x0), (.long x0)])) t
    refine XS.lcmp X28.here hx rfl (hb hby at_150) rfl ?_
    exact k
  refine OFin.go S59 ?_
  have S60 : ∀ t, Steps p.tables e below (T28.setTop (mkF m 154 #[.val (.long x0), .second, .val (.long x1), .second, .val (.long x2), .second, .val (.long x3), .second, .val (.ref b1), .val (.ref b5), .val (.ref b28), .unset, .unset] [])) t → Steps p.tables e below (T28.setTop (mkF m 151 #[.val (.long x0), .second, .val (.long x1), .second, .val (.long x2), .second, .val (.long x3), .second, .val (.ref b1), .val (.ref b5), .val (.ref b28), .unset, .unset] [(.int (lcmpW x0 x0))])) t := by
    intro t k
    show Steps p.tables e below (T28.setTop (mkF m 151 #[.val (.long x0), .second, .val (.long x1), .second, .val (.long x2), .second, .val (.long x3), .second, .val (.ref b1), .val (.ref b5), .val (.ref b28), .unset, .unset] [(.int (lcmpW x0 x0))])) t
    refine XS.ifNo X28.here hx rfl (hb hby at_151) rfl (lc_ne_f rfl) ?_
    exact k
  refine OFin.go S60 ?_
  have S61 : ∀ t, Steps p.tables e below (T28.setTop (mkF m 160 #[.val (.long x0), .second, .val (.long x1), .second, .val (.long x2), .second, .val (.long x3), .second, .val (.ref b1), .val (.ref b5), .val (.ref b28), .unset, .unset] [(.int (lcmpW x1 x1))])) t → Steps p.tables e below (T28.setTop (mkF m 154 #[.val (.long x0), .second, .val (.long x1), .second, .val (.long x2), .second, .val (.long x3), .second, .val (.ref b1), .val (.ref b5), .val (.ref b28), .unset, .unset] [])) t := by
    intro t k
    show Steps p.tables e below (T28.setTop (mkF m 154 #[.val (.long x0), .second, .val (.long x1), .second, .val (.long x2), .second, .val (.long x3), .second, .val (.ref b1), .val (.ref b5), .val (.ref b28), .unset, .unset] [])) t
    refine XS.aload X28.here hx rfl (hb hby at_154) rfl rfl ?_
    show Steps p.tables e below (T28.setTop (mkF m 156 #[.val (.long x0), .second, .val (.long x1), .second, .val (.long x2), .second, .val (.long x3), .second, .val (.ref b1), .val (.ref b5), .val (.ref b28), .unset, .unset] [(.ref b28)])) t
    refine XS.iconst X28.here hx rfl (hb hby at_156) ?_
    show Steps p.tables e below (T28.setTop (mkF m 157 #[.val (.long x0), .second, .val (.long x1), .second, .val (.long x2), .second, .val (.long x3), .second, .val (.ref b1), .val (.ref b5), .val (.ref b28), .unset, .unset] [(.int (1 : Int32)), (.ref b28)])) t
    refine rdJ X28 hx hZ rfl V28 (i := 1) (by decide) rfl (by decide) (x := (.long x1)) rfl (g := (mkF m 157 #[.val (.long x0), .second, .val (.long x1), .second, .val (.long x2), .second, .val (.long x3), .second, .val (.ref b1), .val (.ref b5), .val (.ref b28), .unset, .unset] [(.int (1 : Int32)), (.ref b28)])) rfl rfl (hb hby at_157) ?_
    show Steps p.tables e below (T28.setTop (mkF m 158 #[.val (.long x0), .second, .val (.long x1), .second, .val (.long x2), .second, .val (.long x3), .second, .val (.ref b1), .val (.ref b5), .val (.ref b28), .unset, .unset] [(.long x1)])) t
    refine XS.lloadN X28.here hx rfl (hb hby at_158) rfl ?_
    show Steps p.tables e below (T28.setTop (mkF m 159 #[.val (.long x0), .second, .val (.long x1), .second, .val (.long x2), .second, .val (.long x3), .second, .val (.ref b1), .val (.ref b5), .val (.ref b28), .unset, .unset] [(.long x1), (.long x1)])) t
    refine XS.lcmp X28.here hx rfl (hb hby at_159) rfl ?_
    exact k
  refine OFin.go S61 ?_
  have S62 : ∀ t, Steps p.tables e below (T28.setTop (mkF m 163 #[.val (.long x0), .second, .val (.long x1), .second, .val (.long x2), .second, .val (.long x3), .second, .val (.ref b1), .val (.ref b5), .val (.ref b28), .unset, .unset] [])) t → Steps p.tables e below (T28.setTop (mkF m 160 #[.val (.long x0), .second, .val (.long x1), .second, .val (.long x2), .second, .val (.long x3), .second, .val (.ref b1), .val (.ref b5), .val (.ref b28), .unset, .unset] [(.int (lcmpW x1 x1))])) t := by
    intro t k
    show Steps p.tables e below (T28.setTop (mkF m 160 #[.val (.long x0), .second, .val (.long x1), .second, .val (.long x2), .second, .val (.long x3), .second, .val (.ref b1), .val (.ref b5), .val (.ref b28), .unset, .unset] [(.int (lcmpW x1 x1))])) t
    refine XS.ifNo X28.here hx rfl (hb hby at_160) rfl (lc_ne_f rfl) ?_
    exact k
  refine OFin.go S62 ?_
  have S63 : ∀ t, Steps p.tables e below (T28.setTop (mkF m 170 #[.val (.long x0), .second, .val (.long x1), .second, .val (.long x2), .second, .val (.long x3), .second, .val (.ref b1), .val (.ref b5), .val (.ref b28), .unset, .unset] [(.int (lcmpW x2 x2))])) t → Steps p.tables e below (T28.setTop (mkF m 163 #[.val (.long x0), .second, .val (.long x1), .second, .val (.long x2), .second, .val (.long x3), .second, .val (.ref b1), .val (.ref b5), .val (.ref b28), .unset, .unset] [])) t := by
    intro t k
    show Steps p.tables e below (T28.setTop (mkF m 163 #[.val (.long x0), .second, .val (.long x1), .second, .val (.long x2), .second, .val (.long x3), .second, .val (.ref b1), .val (.ref b5), .val (.ref b28), .unset, .unset] [])) t
    refine XS.aload X28.here hx rfl (hb hby at_163) rfl rfl ?_
    show Steps p.tables e below (T28.setTop (mkF m 165 #[.val (.long x0), .second, .val (.long x1), .second, .val (.long x2), .second, .val (.long x3), .second, .val (.ref b1), .val (.ref b5), .val (.ref b28), .unset, .unset] [(.ref b28)])) t
    refine XS.iconst X28.here hx rfl (hb hby at_165) ?_
    show Steps p.tables e below (T28.setTop (mkF m 166 #[.val (.long x0), .second, .val (.long x1), .second, .val (.long x2), .second, .val (.long x3), .second, .val (.ref b1), .val (.ref b5), .val (.ref b28), .unset, .unset] [(.int (2 : Int32)), (.ref b28)])) t
    refine rdJ X28 hx hZ rfl V28 (i := 2) (by decide) rfl (by decide) (x := (.long x2)) rfl (g := (mkF m 166 #[.val (.long x0), .second, .val (.long x1), .second, .val (.long x2), .second, .val (.long x3), .second, .val (.ref b1), .val (.ref b5), .val (.ref b28), .unset, .unset] [(.int (2 : Int32)), (.ref b28)])) rfl rfl (hb hby at_166) ?_
    show Steps p.tables e below (T28.setTop (mkF m 167 #[.val (.long x0), .second, .val (.long x1), .second, .val (.long x2), .second, .val (.long x3), .second, .val (.ref b1), .val (.ref b5), .val (.ref b28), .unset, .unset] [(.long x2)])) t
    refine XS.lload X28.here hx rfl (hb hby at_167) rfl ?_
    show Steps p.tables e below (T28.setTop (mkF m 169 #[.val (.long x0), .second, .val (.long x1), .second, .val (.long x2), .second, .val (.long x3), .second, .val (.ref b1), .val (.ref b5), .val (.ref b28), .unset, .unset] [(.long x2), (.long x2)])) t
    refine XS.lcmp X28.here hx rfl (hb hby at_169) rfl ?_
    exact k
  refine OFin.go S63 ?_
  have S64 : ∀ t, Steps p.tables e below (T28.setTop (mkF m 173 #[.val (.long x0), .second, .val (.long x1), .second, .val (.long x2), .second, .val (.long x3), .second, .val (.ref b1), .val (.ref b5), .val (.ref b28), .unset, .unset] [])) t → Steps p.tables e below (T28.setTop (mkF m 170 #[.val (.long x0), .second, .val (.long x1), .second, .val (.long x2), .second, .val (.long x3), .second, .val (.ref b1), .val (.ref b5), .val (.ref b28), .unset, .unset] [(.int (lcmpW x2 x2))])) t := by
    intro t k
    show Steps p.tables e below (T28.setTop (mkF m 170 #[.val (.long x0), .second, .val (.long x1), .second, .val (.long x2), .second, .val (.long x3), .second, .val (.ref b1), .val (.ref b5), .val (.ref b28), .unset, .unset] [(.int (lcmpW x2 x2))])) t
    refine XS.ifNo X28.here hx rfl (hb hby at_170) rfl (lc_ne_f rfl) ?_
    exact k
  refine OFin.go S64 ?_
  have S65 : ∀ t, Steps p.tables e below (T28.setTop (mkF m 180 #[.val (.long x0), .second, .val (.long x1), .second, .val (.long x2), .second, .val (.long x3), .second, .val (.ref b1), .val (.ref b5), .val (.ref b28), .unset, .unset] [(.int (lcmpW x3 x3))])) t → Steps p.tables e below (T28.setTop (mkF m 173 #[.val (.long x0), .second, .val (.long x1), .second, .val (.long x2), .second, .val (.long x3), .second, .val (.ref b1), .val (.ref b5), .val (.ref b28), .unset, .unset] [])) t := by
    intro t k
    show Steps p.tables e below (T28.setTop (mkF m 173 #[.val (.long x0), .second, .val (.long x1), .second, .val (.long x2), .second, .val (.long x3), .second, .val (.ref b1), .val (.ref b5), .val (.ref b28), .unset, .unset] [])) t
    refine XS.aload X28.here hx rfl (hb hby at_173) rfl rfl ?_
    show Steps p.tables e below (T28.setTop (mkF m 175 #[.val (.long x0), .second, .val (.long x1), .second, .val (.long x2), .second, .val (.long x3), .second, .val (.ref b1), .val (.ref b5), .val (.ref b28), .unset, .unset] [(.ref b28)])) t
    refine XS.iconst X28.here hx rfl (hb hby at_175) ?_
    show Steps p.tables e below (T28.setTop (mkF m 176 #[.val (.long x0), .second, .val (.long x1), .second, .val (.long x2), .second, .val (.long x3), .second, .val (.ref b1), .val (.ref b5), .val (.ref b28), .unset, .unset] [(.int (3 : Int32)), (.ref b28)])) t
    refine rdJ X28 hx hZ rfl V28 (i := 3) (by decide) rfl (by decide) (x := (.long x3)) rfl (g := (mkF m 176 #[.val (.long x0), .second, .val (.long x1), .second, .val (.long x2), .second, .val (.long x3), .second, .val (.ref b1), .val (.ref b5), .val (.ref b28), .unset, .unset] [(.int (3 : Int32)), (.ref b28)])) rfl rfl (hb hby at_176) ?_
    show Steps p.tables e below (T28.setTop (mkF m 177 #[.val (.long x0), .second, .val (.long x1), .second, .val (.long x2), .second, .val (.long x3), .second, .val (.ref b1), .val (.ref b5), .val (.ref b28), .unset, .unset] [(.long x3)])) t
    refine XS.lload X28.here hx rfl (hb hby at_177) rfl ?_
    show Steps p.tables e below (T28.setTop (mkF m 179 #[.val (.long x0), .second, .val (.long x1), .second, .val (.long x2), .second, .val (.long x3), .second, .val (.ref b1), .val (.ref b5), .val (.ref b28), .unset, .unset] [(.long x3), (.long x3)])) t
    refine XS.lcmp X28.here hx rfl (hb hby at_179) rfl ?_
    exact k
  refine OFin.go S65 ?_
  have S66 : ∀ t, Steps p.tables e below (T28.setTop (mkF m 185 #[.val (.long x0), .second, .val (.long x1), .second, .val (.long x2), .second, .val (.long x3), .second, .val (.ref b1), .val (.ref b5), .val (.ref b28), .unset, .unset] [])) t → Steps p.tables e below (T28.setTop (mkF m 180 #[.val (.long x0), .second, .val (.long x1), .second, .val (.long x2), .second, .val (.long x3), .second, .val (.ref b1), .val (.ref b5), .val (.ref b28), .unset, .unset] [(.int (lcmpW x3 x3))])) t := by
    intro t k
    show Steps p.tables e below (T28.setTop (mkF m 180 #[.val (.long x0), .second, .val (.long x1), .second, .val (.long x2), .second, .val (.long x3), .second, .val (.ref b1), .val (.ref b5), .val (.ref b28), .unset, .unset] [(.int (lcmpW x3 x3))])) t
    refine XS.ifYes X28.here hx rfl (pc0 := 180) (pc' := 185) rfl (hb hby at_180) rfl (lc_eq_t rfl) (by decide) (by decide) ?_
    exact k
  refine OFin.go S66 ?_
  have S67 : ∀ t, Steps p.tables e below (T28.setTop (mkF m 187 #[.val (.long x0), .second, .val (.long x1), .second, .val (.long x2), .second, .val (.long x3), .second, .val (.ref b1), .val (.ref b5), .val (.ref b28), .unset, .unset] [(.ref b1)])) t → Steps p.tables e below (T28.setTop (mkF m 185 #[.val (.long x0), .second, .val (.long x1), .second, .val (.long x2), .second, .val (.long x3), .second, .val (.ref b1), .val (.ref b5), .val (.ref b28), .unset, .unset] [])) t := by
    intro t k
    show Steps p.tables e below (T28.setTop (mkF m 185 #[.val (.long x0), .second, .val (.long x1), .second, .val (.long x2), .second, .val (.long x3), .second, .val (.ref b1), .val (.ref b5), .val (.ref b28), .unset, .unset] [])) t
    refine XS.aload X28.here hx rfl (hb hby at_185) rfl rfl ?_
    exact k
  refine OFin.go S67 ?_
  have F69 := F33.keep K28q nin0
  have F70 := F38.keep K28q nin0
  have F71 := F43.keep K28q nin0
  have F72 := F48.keep K28q nin0
  have F73 := F53.keep K28q
  obtain ⟨_, T68, Lc68, X68, hQ68, st68⟩ := virtQ X28 hx hZ (y := (⟨"com/example/genomatrix/genomatrix/Xoshiro256PlusPlus", "nextLong", "()J"⟩ : MethodName)) hown (hw _ (List.mem_of_getElem? (i := 24) rfl)) (hw _ (List.mem_of_getElem? (i := 26) rfl)) (hw _ (List.mem_of_getElem? (i := 2) rfl)) (hw _ (List.mem_of_getElem? (i := 28) rfl)) (hw _ (List.mem_of_getElem? (i := 25) rfl)) (hw _ (List.mem_of_getElem? (i := 27) rfl)) (by decide) F73 (argsL := []) (rest := []) (rm4 l Z a0 hw [] b1 x0 x1 x2 x3 T28.heap n0 Z28 F73 ge1 F69 F70 F71 F72) (W := 0) (by decide) (by decide) rfl (g := (mkF m 187 #[.val (.long x0), .second, .val (.long x1), .second, .val (.long x2), .second, .val (.long x3), .second, .val (.ref b1), .val (.ref b5), .val (.ref b28), .unset, .unset] [(.ref b1)])) rfl (by rw [hml]; rfl) (lenOf pd_3 rfl) rfl (by show 2 * 0 + _ ≤ _; exact Nat.le_of_eq rfl) (hb hby at_187) (Nat.le_of_ble_eq_true rfl) (Nat.le_of_ble_eq_true rfl)
  obtain ⟨rfl, N68q, K68q, F68_s0, F68_s1, F68_s2, F68_s3⟩ := hQ68
  have Z68 : n0 ≤ T68.heap.size := Nat.le_trans Z28 K68q.1
  have N68 := Fr.app N28 N68q
  refine OFin.go st68 ?_
  show OFin p e below _ (T68.setTop (mkF m 190 #[.val (.long x0), .second, .val (.long x1), .second, .val (.long x2), .second, .val (.long x3), .second, .val (.ref b1), .val (.ref b5), .val (.ref b28), .unset, .unset] [(.long (nxR x0 x1 x2 x3))]))
  have S74 : ∀ t, Steps p.tables e below (T68.setTop (mkF m 193 #[.val (.long x0), .second, .val (.long x1), .second, .val (.long x2), .second, .val (.long x3), .second, .val (.ref b1), .val (.ref b5), .val (.ref b28), .unset, .unset] [(.ref b1)])) t → Steps p.tables e below (T68.setTop (mkF m 190 #[.val (.long x0), .second, .val (.long x1), .second, .val (.long x2), .second, .val (.long x3), .second, .val (.ref b1), .val (.ref b5), .val (.ref b28), .unset, .unset] [(.long (nxR x0 x1 x2 x3))])) t := by
    intro t k
    show Steps p.tables e below (T68.setTop (mkF m 190 #[.val (.long x0), .second, .val (.long x1), .second, .val (.long x2), .second, .val (.long x3), .second, .val (.ref b1), .val (.ref b5), .val (.ref b28), .unset, .unset] [(.long (nxR x0 x1 x2 x3))])) t
    jvm_step X68.here [X68.here.top, hx, (hb hby at_190), Value.category]
    show Steps p.tables e below (T68.setTop (mkF m 191 #[.val (.long x0), .second, .val (.long x1), .second, .val (.long x2), .second, .val (.long x3), .second, .val (.ref b1), .val (.ref b5), .val (.ref b28), .unset, .unset] [])) t
    refine XS.aload X68.here hx rfl (hb hby at_191) rfl rfl ?_
    exact k
  refine OFin.go S74 ?_
  have F76 := F73.keep K68q
  obtain ⟨_, T75, Lc75, X75, hQ75, st75⟩ := virtQ X68 hx hZ (y := (⟨"com/example/genomatrix/genomatrix/Xoshiro256PlusPlus", "state", "()[J"⟩ : MethodName)) hown (hw _ (List.mem_of_getElem? (i := 17) rfl)) (hw _ (List.mem_of_getElem? (i := 19) rfl)) (hw _ (List.mem_of_getElem? (i := 2) rfl)) (hw _ (List.mem_of_getElem? (i := 21) rfl)) (hw _ (List.mem_of_getElem? (i := 18) rfl)) (hw _ (List.mem_of_getElem? (i := 20) rfl)) (by decide) F76 (argsL := []) (rest := []) (rm3 l Z a0 hw [] b1 (nx0 x0 x1 x2 x3) (nx1 x0 x1 x2 x3) (nx2 x0 x1 x2 x3) (nx3 x0 x1 x2 x3) T68.heap n0 Z68 F76 F68_s0 F68_s1 F68_s2 F68_s3) (W := 0) (by decide) (by decide) rfl (g := (mkF m 193 #[.val (.long x0), .second, .val (.long x1), .second, .val (.long x2), .second, .val (.long x3), .second, .val (.ref b1), .val (.ref b5), .val (.ref b28), .unset, .unset] [(.ref b1)])) rfl (by rw [hml]; rfl) (lenOf pd_2 rfl) rfl (by show 2 * 0 + _ ≤ _; exact Nat.le_of_eq rfl) (hb hby at_193) (Nat.le_of_ble_eq_true rfl) (Nat.le_of_ble_eq_true rfl)
  obtain ⟨b75, rfl, N75q, K75q, hb75, V75⟩ := hQ75
  have q77 : b1 ≠ b75 := Nat.ne_of_lt (Nat.lt_of_lt_of_le F76.lt hb75)
  have F78 := V26.keep K28q nin0
  have F79 := F78.keep K68q (ninS (Ne.symm q7) nin0)
  have q80 : b5 ≠ b75 := Nat.ne_of_lt (Nat.lt_of_lt_of_le F79.lt hb75)
  have F81 := V28.keep K68q (ninS (Ne.symm q54) nin0)
  have q82 : b28 ≠ b75 := Nat.ne_of_lt (Nat.lt_of_lt_of_le F81.lt hb75)
  have ge75 : n0 ≤ b75 := Nat.le_trans Z68 hb75
  have Z75 : n0 ≤ T75.heap.size := Nat.le_trans Z68 K75q.1
  have N75 := Fr.app N68 N75q
  refine OFin.go st75 ?_
  show OFin p e below _ (T75.setTop (mkF m 196 #[.val (.long x0), .second, .val (.long x1), .second, .val (.long x2), .second, .val (.long x3), .second, .val (.ref b1), .val (.ref b5), .val (.ref b28), .unset, .unset] [(.ref b75)]))
  have S83 : ∀ t, Steps p.tables e below (T75.setTop (mkF m 200 #[.val (.long x0), .second, .val (.long x1), .second, .val (.long x2), .second, .val (.long x3), .second, .val (.ref b1), .val (.ref b5), .val (.ref b28), .val (.ref b75), .unset] [(.ref b75)])) t → Steps p.tables e below (T75.setTop (mkF m 196 #[.val (.long x0), .second, .val (.long x1), .second, .val (.long x2), .second, .val (.long x3), .second, .val (.ref b1), .val (.ref b5), .val (.ref b28), .unset, .unset] [(.ref b75)])) t := by
    intro t k
    show Steps p.tables e below (T75.setTop (mkF m 196 #[.val (.long x0), .second, .val (.long x1), .second, .val (.long x2), .second, .val (.long x3), .second, .val (.ref b1), .val (.ref b5), .val (.ref b28), .unset, .unset] [(.ref b75)])) t
    refine XS.astore X75.here hx rfl (hb hby at_196) rfl rfl (l' := #[.val (.long x0), .second, .val (.long x1), .second, .val (.long x2), .second, .val (.long x3), .second, .val (.ref b1), .val (.ref b5), .val (.ref b28), .val (.ref b75), .unset]) rfl ?_
    show Steps p.tables e below (T75.setTop (mkF m 198 #[.val (.long x0), .second, .val (.long x1), .second, .val (.long x2), .second, .val (.long x3), .second, .val (.ref b1), .val (.ref b5), .val (.ref b28), .val (.ref b75), .unset] [])) t
    refine XS.aload X75.here hx rfl (hb hby at_198) rfl rfl ?_
    exact k
  refine OFin.go S83 ?_
  refine OFin.go (fun t k => ?_ : ∀ t, Steps p.tables e below (T75.setTop (mkF m 203 #[.val (.long x0), .second, .val (.long x1), .second, .val (.long x2), .second, .val (.long x3), .second, .val (.ref b1), .val (.ref b5), .val (.ref b28), .val (.ref b75), .unset] [])) t → Steps p.tables e below (T75.setTop (mkF m 200 #[.val (.long x0), .second, .val (.long x1), .second, .val (.long x2), .second, .val (.long x3), .second, .val (.ref b1), .val (.ref b5), .val (.ref b28), .val (.ref b75), .unset] [(.ref b75)])) t) ?_
  · show Steps p.tables e below (T75.setTop (mkF m 200 #[.val (.long x0), .second, .val (.long x1), .second, .val (.long x2), .second, .val (.long x3), .second, .val (.ref b1), .val (.ref b5), .val (.ref b28), .val (.ref b75), .unset] [(.ref b75)])) t
    refine XS.ifnullNo X75.here hx rfl (hb hby at_200) rfl ?_
    exact k
  have S84 : ∀ t, Steps p.tables e below (T75.setTop (mkF m 207 #[.val (.long x0), .second, .val (.long x1), .second, .val (.long x2), .second, .val (.long x3), .second, .val (.ref b1), .val (.ref b5), .val (.ref b28), .val (.ref b75), .unset] [(.int (4 : Int32)), (.int (4 : Int32))])) t → Steps p.tables e below (T75.setTop (mkF m 203 #[.val (.long x0), .second, .val (.long x1), .second, .val (.long x2), .second, .val (.long x3), .second, .val (.ref b1), .val (.ref b5), .val (.ref b28), .val (.ref b75), .unset] [])) t := by
    intro t k
    show Steps p.tables e below (T75.setTop (mkF m 203 #[.val (.long x0), .second, .val (.long x1), .second, .val (.long x2), .second, .val (.long x3), .second, .val (.ref b1), .val (.ref b5), .val (.ref b28), .val (.ref b75), .unset] [])) t
    refine XS.aload X75.here hx rfl (hb hby at_203) rfl rfl ?_
    show Steps p.tables e below (T75.setTop (mkF m 205 #[.val (.long x0), .second, .val (.long x1), .second, .val (.long x2), .second, .val (.long x3), .second, .val (.ref b1), .val (.ref b5), .val (.ref b28), .val (.ref b75), .unset] [(.ref b75)])) t
    refine alen X75 hx hZ rfl V75 (z := (4 : Int32)) rfl (g := (mkF m 205 #[.val (.long x0), .second, .val (.long x1), .second, .val (.long x2), .second, .val (.long x3), .second, .val (.ref b1), .val (.ref b5), .val (.ref b28), .val (.ref b75), .unset] [(.ref b75)])) rfl rfl (hb hby at_205) ?_
    show Steps p.tables e below (T75.setTop (mkF m 206 #[.val (.long x0), .second, .val (.long x1), .second, .val (.long x2), .second, .val (.long x3), .second, .val (.ref b1), .val (.ref b5), .val (.ref b28), .val (.ref b75), .unset] [(.int (4 : Int32))])) t
    refine XS.iconst X75.here hx rfl (hb hby at_206) ?_
    exact k
  refine OFin.go S84 ?_
  have S85 : ∀ t, Steps p.tables e below (T75.setTop (mkF m 212 #[.val (.long x0), .second, .val (.long x1), .second, .val (.long x2), .second, .val (.long x3), .second, .val (.ref b1), .val (.ref b5), .val (.ref b28), .val (.ref b75), .unset] [])) t → Steps p.tables e below (T75.setTop (mkF m 207 #[.val (.long x0), .second, .val (.long x1), .second, .val (.long x2), .second, .val (.long x3), .second, .val (.ref b1), .val (.ref b5), .val (.ref b28), .val (.ref b75), .unset] [(.int (4 : Int32)), (.int (4 : Int32))])) t := by
    intro t k
    show Steps p.tables e below (T75.setTop (mkF m 207 #[.val (.long x0), .second, .val (.long x1), .second, .val (.long x2), .second, .val (.long x3), .second, .val (.ref b1), .val (.ref b5), .val (.ref b28), .val (.ref b75), .unset] [(.int (4 : Int32)), (.int (4 : Int32))])) t
    refine XS.icmpYes X75.here hx rfl (pc0 := 207) (pc' := 212) rfl (hb hby at_207) rfl (teq (by decide)).1 (by decide) (by decide) ?_
    exact k
  refine OFin.go S85 ?_
  obtain ⟨T86, h86, X86, e86, E86, A86, D86, -, st86⟩ := newO X75 hx hZ hown (hw _ (List.mem_of_getElem? (i := 0) rfl)) (hw _ (List.mem_of_getElem? (i := 1) rfl)) (hw _ (List.mem_of_getElem? (i := 2) rfl)) rfl (g := (mkF m 212 #[.val (.long x0), .second, .val (.long x1), .second, .val (.long x2), .second, .val (.long x3), .second, .val (.ref b1), .val (.ref b5), .val (.ref b28), .val (.ref b75), .unset] [])) rfl (hb hby at_212) (Nat.le_of_ble_eq_true rfl) (Nat.le_of_ble_eq_true rfl)
  obtain ⟨b86, g86⟩ : ∃ z, z = T75.heap.size := ⟨_, rfl⟩
  rw [← g86] at A86 D86 st86
  have F87 := F76.keep K75q
  have q88 : b1 ≠ b86 := up_lt F87.lt g86
  have F89 := F79.keep K75q nin0
  have q90 : b5 ≠ b86 := up_lt F89.lt g86
  have F91 := F81.keep K75q nin0
  have q92 : b28 ≠ b86 := up_lt F91.lt g86
  have q93 : b75 ≠ b86 := up_lt V75.lt g86
  have ge86 : n0 ≤ b86 := Nat.le_trans Z75 (Nat.le_of_eq g86.symm)
  have Z86 : n0 ≤ h86.size := Nat.le_trans Z75 E86.1
  have F86_s0 : Fld Z h86 b86 "com/example/genomatrix/genomatrix/Xoshiro256PlusPlus" "s0" "J" (.long (0 : Int64)) := D86 (Or.inl (hw _ (List.mem_of_getElem? (i := 10) rfl))) (ty := .long) (by decide)
  have F86_s1 : Fld Z h86 b86 "com/example/genomatrix/genomatrix/Xoshiro256PlusPlus" "s1" "J" (.long (0 : Int64)) := D86 (Or.inl (hw _ (List.mem_of_getElem? (i := 12) rfl))) (ty := .long) (by decide)
  have F86_s2 : Fld Z h86 b86 "com/example/genomatrix/genomatrix/Xoshiro256PlusPlus" "s2" "J" (.long (0 : Int64)) := D86 (Or.inl (hw _ (List.mem_of_getElem? (i := 14) rfl))) (ty := .long) (by decide)
  have F86_s3 : Fld Z h86 b86 "com/example/genomatrix/genomatrix/Xoshiro256PlusPlus" "s3" "J" (.long (0 : Int64)) := D86 (Or.inl (hw _ (List.mem_of_getElem? (i := 16) rfl))) (ty := .long) (by decide)
  refine OFin.go st86 ?_
  show OFin p e below _ (T86.setTop (mkF m 215 #[.val (.long x0), .second, .val (.long x1), .second, .val (.long x2), .second, .val (.long x3), .second, .val (.ref b1), .val (.ref b5), .val (.ref b28), .val (.ref b75), .unset] [(.ref b86)]))
  have F94 := V75.ext E86
  have S95 : ∀ t, Steps p.tables e below (T86.setTop (mkF m 232 #[.val (.long x0), .second, .val (.long x1), .second, .val (.long x2), .second, .val (.long x3), .second, .val (.ref b1), .val (.ref b5), .val (.ref b28), .val (.ref b75), .unset] [(.long (nx3 x0 x1 x2 x3)), (.long (nx2 x0 x1 x2 x3)), (.long (nx1 x0 x1 x2 x3)), (.long (nx0 x0 x1 x2 x3)), (.ref b86), (.ref b86)])) t → Steps p.tables e below (T86.setTop (mkF m 215 #[.val (.long x0), .second, .val (.long x1), .second, .val (.long x2), .second, .val (.long x3), .second, .val (.ref b1), .val (.ref b5), .val (.ref b28), .val (.ref b75), .unset] [(.ref b86)])) t := by
    intro t k
    show Steps p.tables e below (T86.setTop (mkF m 215 #[.val (.long x0), .second, .val (.long x1), .second, .val (.long x2), .second, .val (.long x3), .second, .val (.ref b1), .val (.ref b5), .val (.ref b28), .val (.ref b75), .unset] [(.ref b86)])) t
    refine XS.dup X86.here hx rfl (hb hby at_215) rfl rfl ?_
    show Steps p.tables e below (T86.setTop (mkF m 216 #[.val (.long x0), .second, .val (.long x1), .second, .val (.long x2), .second, .val (.long x3), .second, .val (.ref b1), .val (.ref b5), .val (.ref b28), .val (.ref b75), .unset] [(.ref b86), (.ref b86)])) t
    refine XS.aload X86.here hx rfl (hb hby at_216) rfl rfl ?_
    show Steps p.tables e below (T86.setTop (mkF m 218 #[.val (.long x0), .second, .val (.long x1), .second, .val (.long x2), .second, .val (.long x3), .second, .val (.ref b1), .val (.ref b5), .val (.ref b28), .val (.ref b75), .unset] [(.ref b75), (.ref b86), (.ref b86)])) t
    refine XS.iconst X86.here hx rfl (hb hby at_218) ?_
    show Steps p.tables e below (T86.setTop (mkF m 219 #[.val (.long x0), .second, .val (.long x1), .second, .val (.long x2), .second, .val (.long x3), .second, .val (.ref b1), .val (.ref b5), .val (.ref b28), .val (.ref b75), .unset] [(.int (0 : Int32)), (.ref b75), (.ref b86), (.ref b86)])) t
    refine rdJ X86 hx hZ e86 F94 (i := 0) (by decide) rfl (by decide) (x := (.long (nx0 x0 x1 x2 x3))) rfl (g := (mkF m 219 #[.val (.long x0), .second, .val (.long x1), .second, .val (.long x2), .second, .val (.long x3), .second, .val (.ref b1), .val (.ref b5), .val (.ref b28), .val (.ref b75), .unset] [(.int (0 : Int32)), (.ref b75), (.ref b86), (.ref b86)])) rfl rfl (hb hby at_219) ?_
    show Steps p.tables e below (T86.setTop (mkF m 220 #[.val (.long x0), .second, .val (.long x1), .second, .val (.long x2), .second, .val (.long x3), .second, .val (.ref b1), .val (.ref b5), .val (.ref b28), .val (.ref b75), .unset] [(.long (nx0 x0 x1 x2 x3)), (.ref b86), (.ref b86)])) t
    refine XS.aload X86.here hx rfl (hb hby at_220) rfl rfl ?_
    show Steps p.tables e below (T86.setTop (mkF m 222 #[.val (.long x0), .second, .val (.long x1), .second, .val (.long x2), .second, .val (.long x3), .second, .val (.ref b1), .val (.ref b5), .val (.ref b28), .val (.ref b75), .unset] [(.ref b75), (.long (nx0 x0 x1 x2 x3)), (.ref b86), (.ref b86)])) t
    refine XS.iconst X86.here hx rfl (hb hby at_222) ?_
    show Steps p.tables e below (T86.setTop (mkF m 223 #[.val (.long x0), .second, .val (.long x1), .second, .val (.long x2), .second, .val (.long x3), .second, .val (.ref b1), .val (.ref b5), .val (.ref b28), .val (.ref b75), .unset] [(.int (1 : Int32)), (.ref b75), (.long (nx0 x0 x1 x2 x3)), (.ref b86), (.ref b86)])) t
    refine rdJ X86 hx hZ e86 F94 (i := 1) (by decide) rfl (by decide) (x := (.long (nx1 x0 x1 x2 x3))) rfl (g := (mkF m 223 #[.val (.long x0), .second, .val (.long x1), .second, .val (.long x2), .second, .val (.long x3), .second, .val (.ref b1), .val (.ref b5), .val (.ref b28), .val (.ref b75), .unset] [(.int (1 : Int32)), (.ref b75), (.long (nx0 x0 x1 x2 x3)), (.ref b86), (.ref b86)])) rfl rfl (hb hby at_223) ?_
    show Steps p.tables e below (T86.setTop (mkF m 224 #[.val (.long x0), .second, .val (.long x1), .second, .val (.long x2), .second, .val (.long x3), .second, .val (.ref b1), .val (.ref b5), .val (.ref b28), .val (.ref b75), .unset] [(.long (nx1 x0 x1 x2 x3)), (.long (nx0 x0 x1 x2 x3)), (.ref b86), (.ref b86)])) t
    refine XS.aload X86.here hx rfl (hb hby at_224) rfl rfl ?_
    show Steps p.tables e below (T86.setTop (mkF m 226 #[.val (.long x0), .second, .val (.long x1), .second, .val (.long x2), .second, .val (.long x3), .second, .val (.ref b1), .val (.ref b5), .val (.ref b28), .val (.ref b75), .unset] [(.ref b75), (.long (nx1 x0 x1 x2 x3)), (.long (nx0 x0 x1 x2 x3)), (.ref b86), (.ref b86)])) t
    refine XS.iconst X86.here hx rfl (hb hby at_226) ?_
    show Steps p.tables e below (T86.setTop (mkF m 227 #[.val (.long x0), .second, .val (.long x1), .second, .val (.long x2), .second, .val (.long x3), .second, .val (.ref b1), .val (.ref b5), .val (.ref b28), .val (.ref b75), .unset] [(.int (2 : Int32)), (.ref b75), (.long (nx1 x0 x1 x2 x3)), (.long (nx0 x0 x1 x2 x3)), (.ref b86), (.ref b86)])) t
    refine rdJ X86 hx hZ e86 F94 (i := 2) (by decide) rfl (by decide) (x := (.long (nx2 x0 x1 x2 x3))) rfl (g := (mkF m 227 #[.val (.long x0), .second, .val (.long x1), .second, .val (.long x2), .second, .val (.long x3), .second, .val (.ref b1), .val (.ref b5), .val (.ref b28), .val (.ref b75), .unset] [(.int (2 : Int32)), (.ref b75), (.long (nx1 x0 x1 x2 x3)), (.long (nx0 x0 x1 x2 x3)), (.ref b86), (.ref b86)])) rfl rfl (hb hby at_227) ?_
    show Steps p.tables e below (T86.setTop (mkF m 228 #[.val (.long x0), .second, .val (.long x1), .second, .val (.long x2), .second, .val (.long x3), .second, .val (.ref b1), .val (.ref b5), .val (.ref b28), .val (.ref b75), .unset] [(.long (nx2 x0 x1 x2 x3)), (.long (nx1 x0 x1 x2 x3)), (.long (nx0 x0 x1 x2 x3)), (.ref b86), (.ref b86)])) t
    refine XS.aload X86.here hx rfl (hb hby at_228) rfl rfl ?_
    show Steps p.tables e below (T86.setTop (mkF m 230 #[.val (.long x0), .second, .val (.long x1), .second, .val (.long x2), .second, .val (.long x3), .second, .val (.ref b1), .val (.ref b5), .val (.ref b28), .val (.ref b75), .unset] [(.ref b75), (.long (nx2 x0 x1 x2 x3)), (.long (nx1 x0 x1 x2 x3)), (.long (nx0 x0 x1 x2 x3)), (.ref b86), (.ref b86)])) t
    refine XS.iconst X86.here hx rfl (hb hby at_230) ?_
    show Steps p.tables e below (T86.setTop (mkF m 231 #[.val (.long x0), .second, .val (.long x1), .second, .val (.long x2), .second, .val (.long x3), .second, .val (.ref b1), .val (.ref b5), .val (.ref b28), .val (.ref b75), .unset] [(.int (3 : Int32)), (.ref b75), (.long (nx2 x0 x1 x2 x3)), (.long (nx1 x0 x1 x2 x3)), (.long (nx0 x0 x1 x2 x3)), (.ref b86), (.ref b86)])) t
    refine rdJ X86 hx hZ e86 F94 (i := 3) (by decide) rfl (by decide) (x := (.long (nx3 x0 x1 x2 x3))) rfl (g := (mkF m 231 #[.val (.long x0), .second, .val (.long x1), .second, .val (.long x2), .second, .val (.long x3), .second, .val (.ref b1), .val (.ref b5), .val (.ref b28), .val (.ref b75), .unset] [(.int (3 : Int32)), (.ref b75), (.long (nx2 x0 x1 x2 x3)), (.long (nx1 x0 x1 x2 x3)), (.long (nx0 x0 x1 x2 x3)), (.ref b86), (.ref b86)])) rfl rfl (hb hby at_231) ?_
    exact k
  refine OFin.go S95 ?_
  obtain ⟨_, T96, Lc96, X96, hQ96, st96⟩ := specQ X86 hx hZ (y := (⟨"com/example/genomatrix/genomatrix/Xoshiro256PlusPlus", "<init>", "(JJJJ)V"⟩ : MethodName)) rfl hown (hw _ (List.mem_of_getElem? (i := 3) rfl)) (hw _ (List.mem_of_getElem? (i := 4) rfl)) (hw _ (List.mem_of_getElem? (i := 2) rfl)) (hw _ (List.mem_of_getElem? (i := 5) rfl)) (by decide) (a := b86) (argsL := [(.long (nx0 x0 x1 x2 x3)), (.long (nx1 x0 x1 x2 x3)), (.long (nx2 x0 x1 x2 x3)), (.long (nx3 x0 x1 x2 x3))]) (rest := [(.ref b86)]) (rm1 l Z a0 hw [] b86 (nx0 x0 x1 x2 x3) (nx1 x0 x1 x2 x3) (nx2 x0 x1 x2 x3) (nx3 x0 x1 x2 x3) h86 n0 Z86 A86 ge86 F86_s0 F86_s1 F86_s2 F86_s3) (W := 1) (by decide) (by decide) e86 (g := (mkF m 232 #[.val (.long x0), .second, .val (.long x1), .second, .val (.long x2), .second, .val (.long x3), .second, .val (.ref b1), .val (.ref b5), .val (.ref b28), .val (.ref b75), .unset] [(.long (nx3 x0 x1 x2 x3)), (.long (nx2 x0 x1 x2 x3)), (.long (nx1 x0 x1 x2 x3)), (.long (nx0 x0 x1 x2 x3)), (.ref b86), (.ref b86)])) rfl (by rw [hml]; rfl) (lenOf pd_1 rfl) rfl (by show 2 * 0 + _ ≤ _; exact Nat.le_of_eq rfl) (hb hby at_232) (Nat.le_of_ble_eq_true rfl) (Nat.le_of_ble_eq_true rfl)
  obtain ⟨rfl, N96q, K96q, F96_s0, F96_s1, F96_s2, F96_s3⟩ := hQ96
  have Z96 : n0 ≤ T96.heap.size := Nat.le_trans Z86 K96q.1
  have N96 := Fr.app N75 N96q
  refine OFin.go st96 ?_
  show OFin p e below _ (T96.setTop (mkF m 235 #[.val (.long x0), .second, .val (.long x1), .second, .val (.long x2), .second, .val (.long x3), .second, .val (.ref b1), .val (.ref b5), .val (.ref b28), .val (.ref b75), .unset] [(.ref b86)]))
  have S97 : ∀ t, Steps p.tables e below (T96.setTop (mkF m 239 #[.val (.long x0), .second, .val (.long x1), .second, .val (.long x2), .second, .val (.long x3), .second, .val (.ref b1), .val (.ref b5), .val (.ref b28), .val (.ref b75), .val (.ref b86)] [(.ref b1)])) t → Steps p.tables e below (T96.setTop (mkF m 235 #[.val (.long x0), .second, .val (.long x1), .second, .val (.long x2), .second, .val (.long x3), .second, .val (.ref b1), .val (.ref b5), .val (.ref b28), .val (.ref b75), .unset] [(.ref b86)])) t := by
    intro t k
    show Steps p.tables e below (T96.setTop (mkF m 235 #[.val (.long x0), .second, .val (.long x1), .second, .val (.long x2), .second, .val (.long x3), .second, .val (.ref b1), .val (.ref b5), .val (.ref b28), .val (.ref b75), .unset] [(.ref b86)])) t
    refine XS.astore X96.here hx rfl (hb hby at_235) rfl rfl (l' := #[.val (.long x0), .second, .val (.long x1), .second, .val (.long x2), .second, .val (.long x3), .second, .val (.ref b1), .val (.ref b5), .val (.ref b28), .val (.ref b75), .val (.ref b86)]) rfl ?_
    show Steps p.tables e below (T96.setTop (mkF m 237 #[.val (.long x0), .second, .val (.long x1), .second, .val (.long x2), .second, .val (.long x3), .second, .val (.ref b1), .val (.ref b5), .val (.ref b28), .val (.ref b75), .val (.ref b86)] [])) t
    refine XS.aload X96.here hx rfl (hb hby at_237) rfl rfl ?_
    exact k
  refine OFin.go S97 ?_
  have F99 := F68_s0.keep K75q nin0
  have F100 := F99.ext E86
  have F101 := F100.keep K96q (ninS q88 nin0)
  have F102 := F68_s1.keep K75q nin0
  have F103 := F102.ext E86
  have F104 := F103.keep K96q (ninS q88 nin0)
  have F105 := F68_s2.keep K75q nin0
  have F106 := F105.ext E86
  have F107 := F106.keep K96q (ninS q88 nin0)
  have F108 := F68_s3.keep K75q nin0
  have F109 := F108.ext E86
  have F110 := F109.keep K96q (ninS q88 nin0)
  have F111 := F87.ext E86
  have F112 := F111.keep K96q
  obtain ⟨_, T98, Lc98, X98, hQ98, st98⟩ := virtQ X96 hx hZ (y := (⟨"com/example/genomatrix/genomatrix/Xoshiro256PlusPlus", "nextLong", "()J"⟩ : MethodName)) hown (hw _ (List.mem_of_getElem? (i := 24) rfl)) (hw _ (List.mem_of_getElem? (i := 26) rfl)) (hw _ (List.mem_of_getElem? (i := 2) rfl)) (hw _ (List.mem_of_getElem? (i := 28) rfl)) (hw _ (List.mem_of_getElem? (i := 25) rfl)) (hw _ (List.mem_of_getElem? (i := 27) rfl)) (by decide) F112 (argsL := []) (rest := []) (rm4 l Z a0 hw [] b1 (nx0 x0 x1 x2 x3) (nx1 x0 x1 x2 x3) (nx2 x0 x1 x2 x3) (nx3 x0 x1 x2 x3) T96.heap n0 Z96 F112 ge1 F101 F104 F107 F110) (W := 0) (by decide) (by decide) rfl (g := (mkF m 239 #[.val (.long x0), .second, .val (.long x1), .second, .val (.long x2), .second, .val (.long x3), .second, .val (.ref b1), .val (.ref b5), .val (.ref b28), .val (.ref b75), .val (.ref b86)] [(.ref b1)])) rfl (by rw [hml]; rfl) (lenOf pd_3 rfl) rfl (by show 2 * 0 + _ ≤ _; exact Nat.le_of_eq rfl) (hb hby at_239) (Nat.le_of_ble_eq_true rfl) (Nat.le_of_ble_eq_true rfl)
  obtain ⟨rfl, N98q, K98q, F98_s0, F98_s1, F98_s2, F98_s3⟩ := hQ98
  have Z98 : n0 ≤ T98.heap.size := Nat.le_trans Z96 K98q.1
  have N98 := Fr.app N96 N98q
  refine OFin.go st98 ?_
  show OFin p e below _ (T98.setTop (mkF m 242 #[.val (.long x0), .second, .val (.long x1), .second, .val (.long x2), .second, .val (.long x3), .second, .val (.ref b1), .val (.ref b5), .val (.ref b28), .val (.ref b75), .val (.ref b86)] [(.long (nxR (nx0 x0 x1 x2 x3) (nx1 x0 x1 x2 x3) (nx2 x0 x1 x2 x3) (nx3 x0 x1 x2 x3)))]))
  have S113 : ∀ t, Steps p.tables e below (T98.setTop (mkF m 244 #[.val (.long x0), .second, .val (.long x1), .second, .val (.long x2), .second, .val (.long x3), .second, .val (.ref b1), .val (.ref b5), .val (.ref b28), .val (.ref b75), .val (.ref b86)] [(.ref b86), (.long (nxR (nx0 x0 x1 x2 x3) (nx1 x0 x1 x2 x3) (nx2 x0 x1 x2 x3) (nx3 x0 x1 x2 x3)))])) t → Steps p.tables e below (T98.setTop (mkF m 242 #[.val (.long x0), .second, .val (.long x1), .second, .val (.long x2), .second, .val (.long x3), .second, .val (.ref b1), .val (.ref b5), .val (.ref b28), .val (.ref b75), .val (.ref b86)] [(.long (nxR (nx0 x0 x1 x2 x3) (nx1 x0 x1 x2 x3) (nx2 x0 x1 x2 x3) (nx3 x0 x1 x2 x3)))])) t := by
    intro t k
    show Steps p.tables e below (T98.setTop (mkF m 242 #[.val (.long x0), .second, .val (.long x1), .second, .val (.long x2), .second, .val (.long x3), .second, .val (.ref b1), .val (.ref b5), .val (.ref b28), .val (.ref b75), .val (.ref b86)] [(.long (nxR (nx0 x0 x1 x2 x3) (nx1 x0 x1 x2 x3) (nx2 x0 x1 x2 x3) (nx3 x0 x1 x2 x3)))])) t
    refine XS.aload X98.here hx rfl (hb hby at_242) rfl rfl ?_
    exact k
  refine OFin.go S113 ?_
  have F115 := F96_s0.keep K98q (ninS (Ne.symm q88) nin0)
  have F116 := F96_s1.keep K98q (ninS (Ne.symm q88) nin0)
  have F117 := F96_s2.keep K98q (ninS (Ne.symm q88) nin0)
  have F118 := F96_s3.keep K98q (ninS (Ne.symm q88) nin0)
  have F119 := A86.keep K96q
  have F120 := F119.keep K98q
  obtain ⟨_, T114, Lc114, X114, hQ114, st114⟩ := virtQ X98 hx hZ (y := (⟨"com/example/genomatrix/genomatrix/Xoshiro256PlusPlus", "nextLong", "()J"⟩ : MethodName)) hown (hw _ (List.mem_of_getElem? (i := 24) rfl)) (hw _ (List.mem_of_getElem? (i := 26) rfl)) (hw _ (List.mem_of_getElem? (i := 2) rfl)) (hw _ (List.mem_of_getElem? (i := 28) rfl)) (hw _ (List.mem_of_getElem? (i := 25) rfl)) (hw _ (List.mem_of_getElem? (i := 27) rfl)) (by decide) F120 (argsL := []) (rest := [(.long (nxR (nx0 x0 x1 x2 x3) (nx1 x0 x1 x2 x3) (nx2 x0 x1 x2 x3) (nx3 x0 x1 x2 x3)))]) (rm4 l Z a0 hw [] b86 (nx0 x0 x1 x2 x3) (nx1 x0 x1 x2 x3) (nx2 x0 x1 x2 x3) (nx3 x0 x1 x2 x3) T98.heap n0 Z98 F120 ge86 F115 F116 F117 F118) (W := 2) (by decide) (by decide) rfl (g := (mkF m 244 #[.val (.long x0), .second, .val (.long x1), .second, .val (.long x2), .second, .val (.long x3), .second, .val (.ref b1), .val (.ref b5), .val (.ref b28), .val (.ref b75), .val (.ref b86)] [(.ref b86), (.long (nxR (nx0 x0 x1 x2 x3) (nx1 x0 x1 x2 x3) (nx2 x0 x1 x2 x3) (nx3 x0 x1 x2 x3)))])) rfl (by rw [hml]; rfl) (lenOf pd_3 rfl) rfl (by show 2 * 0 + _ ≤ _; exact Nat.le_of_eq rfl) (hb hby at_244) (Nat.le_of_ble_eq_true rfl) (Nat.le_of_ble_eq_true rfl)
  obtain ⟨rfl, N114q, K114q, F114_s0, F114_s1, F114_s2, F114_s3⟩ := hQ114
  have Z114 : n0 ≤ T114.heap.size := Nat.le_trans Z98 K114q.1
  have N114 := Fr.app N98 N114q
  refine OFin.go st114 ?_
  show OFin p e below _ (T114.setTop (mkF m 247 #[.val (.long x0), .second, .val (.long x1), .second, .val (.long x2), .second, .val (.long x3), .second, .val (.ref b1), .val (.ref b5), .val (.ref b28), .val (.ref b75), .val (.ref b86)] [(.long (nxR (nx0 x0 x1 x2 x3) (nx1 x0 x1 x2 x3) (nx2 x0 x1 x2 x3) (nx3 x0 x1 x2 x3))), (.long (nxR (nx0 x0 x1 x2 x3) (nx1 x0 x1 x2 x3) (nx2 x0 x1 x2 x3) (nx3 x0 x1 x2 x3)))]))
  have S121 : ∀ t, Steps p.tables e below (T114.setTop (mkF m 248 #[.val (.long x0), .second, .val (.long x1), .second, .val (.long x2), .second, .val (.long x3), .second, .val (.ref b1), .val (.ref b5), .val (.ref b28), .val (.ref b75), .val (.ref b86)] [(.int (lcmpW (nxR (nx0 x0 x1 x2 x3) (nx1 x0 x1 x2 x3) (nx2 x0 x1 x2 x3) (nx3 x0 x1 x2 x3)) (nxR (nx0 x0 x1 x2 x3) (nx1 x0 x1 x2 x3) (nx2 x0 x1 x2 x3) (nx3 x0 x1 x2 x3))))])) t → Steps p.tables e below (T114.setTop (mkF m 247 #[.val (.long x0), .second, .val (.long x1), .second, .val (.long x2), .second, .val (.long x3), .second, .val (.ref b1), .val (.ref b5), .val (.ref b28), .val (.ref b75), .val (.ref b86)] [(.long (nxR (nx0 x0 x1 x2 x3) (nx1 x0 x1 x2 x3) (nx2 x0 x1 x2 x3) (nx3 x0 x1 x2 x3))), (.long (nxR (nx0 x0 x1 x2 x3) (nx1 x0 x1 x2 x3) (nx2 x0 x1 x2 x3) (nx3 x0 x1 x2 x3)))])) t := by
    intro t k
    show Steps p.tables e below (T114.setTop (mkF m 247 #[.val (.long x0), .second, .val (.long x1), .second, .val (.long x2), .second, .val (.long x3), .second, .val (.ref b1), .val (.ref b5), .val (.ref b28), .val (.ref b75), .val (.ref b86)] [(.long (nxR (nx0 x0 x1 x2 x3) (nx1 x0 x1 x2 x3) (nx2 x0 x1 x2 x3) (nx3 x0 x1 x2 x3))), (.long (nxR (nx0 x0 x1 x2 x3) (nx1 x0 x1 x2 x3) (nx2 x0 x1 x2 x3) (nx3 x0 x1 x2 x3)))])) t
    refine XS.lcmp X114.here hx rfl (hb hby at_247) rfl ?_
    exact k
  refine OFin.go S121 ?_
  have S122 : ∀ t, Steps p.tables e below (T114.setTop (mkF m 251 #[.val (.long x0), .second, .val (.long x1), .second, .val (.long x2), .second, .val (.long x3), .second, .val (.ref b1), .val (.ref b5), .val (.ref b28), .val (.ref b75), .val (.ref b86)] [])) t → Steps p.tables e below (T114.setTop (mkF m 248 #[.val (.long x0), .second, .val (.long x1), .second, .val (.long x2), .second, .val (.long x3), .second, .val (.ref b1), .val (.ref b5), .val (.ref b28), .val (.ref b75), .val (.ref b86)] [(.int (lcmpW (nxR (nx0 x0 x1 x2 x3) (nx1 x0 x1 x2 x3) (nx2 x0 x1 x2 x3) (nx3 x0 x1 x2 x3)) (nxR (nx0 x0 x1 x2 x3) (nx1 x0 x1 x2 x3) (nx2 x0 x1 x2 x3) (nx3 x0 x1 x2 x3))))])) t := by
    intro t k
    show Steps p.tables e below (T114.setTop (mkF m 248 #[.val (.long x0), .second, .val (.long x1), .second, .val (.long x2), .second, .val (.long x3), .second, .val (.ref b1), .val (.ref b5), .val (.ref b28), .val (.ref b75), .val (.ref b86)] [(.int (lcmpW (nxR (nx0 x0 x1 x2 x3) (nx1 x0 x1 x2 x3) (nx2 x0 x1 x2 x3) (nx3 x0 x1 x2 x3)) (nxR (nx0 x0 x1 x2 x3) (nx1 x0 x1 x2 x3) (nx2 x0 x1 x2 x3) (nx3 x0 x1 x2 x3))))])) t
    refine XS.ifNo X114.here hx rfl (hb hby at_248) rfl (lc_ne_f rfl) ?_
    exact k
  refine OFin.go S122 ?_
  have S123 : ∀ t, Steps p.tables e below (T114.setTop (mkF m 256 #[.val (.long x0), .second, .val (.long x1), .second, .val (.long x2), .second, .val (.long x3), .second, .val (.ref b1), .val (.ref b5), .val (.ref b28), .val (.ref b75), .val (.ref b86)] [(.int (1 : Int32))])) t → Steps p.tables e below (T114.setTop (mkF m 251 #[.val (.long x0), .second, .val (.long x1), .second, .val (.long x2), .second, .val (.long x3), .second, .val (.ref b1), .val (.ref b5), .val (.ref b28), .val (.ref b75), .val (.ref b86)] [])) t := by
    intro t k
    show Steps p.tables e below (T114.setTop (mkF m 251 #[.val (.long x0), .second, .val (.long x1), .second, .val (.long x2), .second, .val (.long x3), .second, .val (.ref b1), .val (.ref b5), .val (.ref b28), .val (.ref b75), .val (.ref b86)] [])) t
    refine XS.iconst X114.here hx rfl (hb hby at_251) ?_
    show Steps p.tables e below (T114.setTop (mkF m 252 #[.val (.long x0), .second, .val (.long x1), .second, .val (.long x2), .second, .val (.long x3), .second, .val (.ref b1), .val (.ref b5), .val (.ref b28), .val (.ref b75), .val (.ref b86)] [(.int (1 : Int32))])) t
    refine XS.goto X114.here hx rfl (pc0 := 252) (pc' := 256) rfl (hb hby at_252) (by decide) (by decide) ?_
    exact k
  refine OFin.go S123 ?_
  exact finZ X114 hx Bd.notSynchronized (t := .boolean) Bd.returns (by simp) (hb hby at_256) rfl (by decide) (by decide) (⟨congrArg (fun z => some (Value.int z)) (rfl : (1 : Int32) = (1 : Int32)), N114⟩)
set_option maxRecDepth 65536 in
set_option maxHeartbeats 40000000 in
theorem comes_1 {Post : Tables → Env → Array Value → State → Outcome → State → Prop} (hpost : ∀ tb e args s v u, (limb_1_1.after args s (.returned v) u = true ∧ limb_1_2.after args s (.returned v) u = true ∧ True) → FrameEnd s (.returned v) u (Jvm.fieldLocs frame_1_writes args s ++ Jvm.arrayLocs frame_1_arrays args s ++ Jvm.staticLocs frame_1_statics s) 24 128 → Post tb e args s (.returned v) u) :
    ArmFor flags0 classFile x code maxLocals ret World_1 tables_1 room_1 Calls_1 rest_1 Pre_1 Post := by
  intro l hfl _ _ p e ha hc hk s m args below hf hA hF happ hP
  obtain ⟨hcalls, hrest, hpre⟩ := hP
  obtain ⟨-, -, -, hnamed, -, -, -, hat⟩ := (Spec.applies_iff hf).mp happ
  obtain ⟨hg, hn⟩ := and_e (Cond.before_iff.mp (show (Jvm.Cond.and given_1 narrow_1).before args s = true from hpre))
  obtain ⟨gg2, gg3⟩ := and_e hg
  obtain ⟨gg4, gg5⟩ := and_e gg3
  obtain ⟨gg6, gg7⟩ := and_e gg5
  obtain ⟨gg8, gg9⟩ := and_e gg7
  obtain ⟨w0, w1, w2, w3, rfl⟩ : ∃ w0 w1 w2 w3 : Value, args = #[w0, w1, w2, w3] := by
    have hs : args.size = 4 := by simpa [Cond.value, given_1] using gg2
    obtain ⟨L⟩ := args
    match L, hs with
    | [w0, w1, w2, w3], _ => exact ⟨w0, w1, w2, w3, rfl⟩
  have hw := fun d (hd : d ∈ tables_1) => atoms_spec (ws := Jvm.Cond.code x code maxLocals ret :: tables_1) hat d (List.mem_cons_of_mem _ hd)
  have hfit : Fit s := fun {y c} hc i hi => by
    obtain ⟨ha, rfl⟩ := Array.getElem?_eq_some_iff.mp hc
    have q := List.all_eq_true.mp ((Array.all_eq_true_iff_forall_mem.mp hF) _ (Array.getElem_mem ha)) i (List.mem_range.mpr hi)
    simpa [Array.getElem?_eq_getElem hi] using q
  obtain ⟨i0, ei0⟩ := isL_v gg4
  obtain rfl : w0 = (.long i0) := Option.some.inj ei0
  obtain ⟨i1, ei1⟩ := isL_v gg6
  obtain rfl : w1 = (.long i1) := Option.some.inj ei1
  obtain ⟨i2, ei2⟩ := isL_v gg8
  obtain rfl : w2 = (.long i2) := Option.some.inj ei2
  obtain ⟨i3, ei3⟩ := isL_v gg9
  obtain rfl : w3 = (.long i3) := Option.some.inj ei3
  obtain ⟨n, o, h1, h2, h3, _, L, rfl, ⟨rfl, N⟩, hq⟩ := rm0 l s _ hw tables_1 i0 i1 i2 i3 s.heap s.heap.size (Nat.le_refl _)  p e ha hc hk s m _ below hf ((Spec.applies_iff_loose hf).mp happ).1 ⟨rfl, State.Warmed39.refl s, rfl⟩ trivial
  refine ⟨n, _, h1, h2, h3, hpost _ _ _ _ _ _ ⟨Cond.after_iff.mpr rfl, Cond.after_iff.mpr (eq_i res_at (Term.int_eval (1)) rfl), trivial⟩ ⟨hq.1, hq.2.1, (hq.2.2.sift fun y hy => Or.inr (N y hy)).mono (by decide) (by decide)⟩⟩
theorem main_1_1 : Claimed_1_1 := comes_1 fun _ _ _ _ _ _ h hF => ⟨h.1, hF⟩
theorem main_1_2 : Claimed_1_2 := comes_1 fun _ _ _ _ _ _ h hF => ⟨h.2.1, hF⟩
end Jvm.Pilot.@@N@@
namespace Jvm.Pilot.@@N@@
open Jvm Jvm.ClassFile Sem Op Lib Jvm.Free Jvm.Stand Jvm.Pilot.@@N@@.Jvm.D
/-! MADE BY PROGRAM (witnessworld.py) out of the Statement's table words and the real class files: 16 classes; the members and pool entries that the words name. The judged class is class 1, her method 1. -/
namespace start1
open Jvm.ClassFile
def u (s : String) : CpInfo := .utf8 (stringToUtf16 s)
/-- a pool by its gaps: so many unusable entries, then the entry; so many at the end -/
def gap : Nat → List CpInfo → List CpInfo
  | 0, r => r
  | n + 1, r => .unusable :: gap n r
def poolList (es : List (Nat × CpInfo)) (last : Nat) : List CpInfo := es.foldr (fun e r => gap e.1 (e.2 :: r)) (gap last [])
def pool (es : List (Nat × CpInfo)) (last : Nat) : Array CpInfo := ⟨poolList es last⟩
def fileOf (pool : Array CpInfo) (this : Nat) (attrs : Array Attribute := #[]) (ms : Array MethodInfo := #[]) (fl : Nat := 33) (sup : Nat := 0) (ifs : Array Nat := #[]) (fds : Array FieldInfo := #[]) : ClassFile where
  minorVersion := 0
  majorVersion := 65
  constantPool := pool
  accessFlags := fl
  thisClass := this
  superClass := sup
  interfaces := ifs
  fields := fds
  methods := ms
  attributes := attrs
def plain (name : String) (sup : Option ClassId) : Class where
  name := name
  kind := .ordinary
  loader := none
  accessFlags := 33
  super := sup
  interfaces := #[]
  cf := none
  fields := #[]
  methods := #[]
  instanceTypes := #[]
  staticTypes := #[]
  resolved := #[]
  callSites := []
  init := .initialized
  statics := none
  mirror := none

def pool0 : Array CpInfo := pool [(5, u "<init>"), (0, u "()V"), (1, .class_ 10), (1, u "java/lang/Object")] 113

def k0c0 : Code := { maxStack := 0, maxLocals := 1, code := object_method_1_code, exceptionTable := #[], attributes := #[] }
def k0m0 : Method := { name := "<init>", desc := "()V", sig := { parameters := [], returnType := none }, accessFlags := 1, code := some k0c0 }
/-- java/lang/Object -/
def k0 : Class := { plain "java/lang/Object" none with
  accessFlags := 33
  interfaces := #[]
  cf := some (fileOf pool0 8 #[] #[{ accessFlags := 1, nameIndex := 5, descriptorIndex := 6, attributes := #[] }] 33 0 #[] #[])
  fields := #[]
  methods := #[k0m0]
  instanceTypes := #[]
  staticTypes := #[]
  resolved := Array.replicate 124 none
  statics := none }

def pool1 : Array CpInfo := pool [(2, .class_ 4), (1, u "java/lang/Object"), (0, u "<init>"), (0, u "()V"), (0, .class_ 8), (0, u "com/example/genomatrix/genomatrix/Xoshiro256PlusPlus"), (0, .methodref 7 10), (0, .nameAndType 5 11), (0, u "(JJJJ)V"), (0, .methodref 7 13), (0, .nameAndType 14 15), (0, u "state"), (0, u "()[J"), (0, .long 18446744073709551615), (1, .methodref 7 19), (0, .nameAndType 20 21), (0, u "nextLong"), (0, u "()J"), (0, .class_ 23), (0, u "com/example/genomatrix/genomatrix/Xoshiro256PlusPlusStatePinLaw"), (2, u "law"), (0, u "(JJJJ)Z")] 5

def k1m0 : Method := { name := "<init>", desc := "()V", sig := { parameters := [], returnType := none }, accessFlags := 2, code := none }
def k1c1 : Code := { maxStack := 10, maxLocals := 13, code := code, exceptionTable := #[], attributes := #[] }
def k1m1 : Method := { name := "law", desc := "(JJJJ)Z", sig := { parameters := [.long, .long, .long, .long], returnType := some .boolean }, accessFlags := 9, code := some k1c1 }
/-- com/example/genomatrix/genomatrix/Xoshiro256PlusPlusStatePinLaw -/
def k1 : Class := { plain "com/example/genomatrix/genomatrix/Xoshiro256PlusPlusStatePinLaw" (some 0) with
  accessFlags := 49
  interfaces := #[]
  cf := some (fileOf pool1 22 #[] #[{ accessFlags := 2, nameIndex := 5, descriptorIndex := 6, attributes := #[] }, { accessFlags := 9, nameIndex := 26, descriptorIndex := 27, attributes := #[] }] 49 2 #[] #[])
  fields := #[]
  methods := #[k1m0, k1m1]
  instanceTypes := #[]
  staticTypes := #[]
  resolved := Array.replicate 33 none
  statics := none }

def pool2 : Array CpInfo := pool [(1, .methodref 2 3), (0, .class_ 4), (0, .nameAndType 5 6), (0, u "java/lang/Object"), (0, u "<init>"), (0, u "()V"), (0, .class_ 8), (0, u "com/example/genomatrix/genomatrix/Xoshiro256PlusPlus"), (6, .fieldref 7 16), (0, .nameAndType 17 18), (0, u "s0"), (0, u "J"), (2, .fieldref 7 22), (0, .nameAndType 23 18), (0, u "s1"), (2, .fieldref 7 27), (0, .nameAndType 28 18), (0, u "s2"), (2, .fieldref 7 32), (0, .nameAndType 33 18), (0, u "s3"), (4, .methodref 39 40), (0, .class_ 41), (0, .nameAndType 42 43), (0, u "java/lang/Long"), (0, u "rotateLeft"), (0, u "(JI)J"), (11, u "nextLong"), (0, u "()J"), (18, .class_ 77), (1, u "com/example/genomatrix/genomatrix/Xoshiro256PlusPlus$Geometric"), (34, u "GOLDEN_GAMMA"), (4, u "(JJJJ)V"), (0, u "state"), (0, u "()[J")] 28

def k2c0 : Code := { maxStack := 3, maxLocals := 9, code := prog_95_method_2_code, exceptionTable := #[], attributes := #[] }
def k2m0 : Method := { name := "<init>", desc := "(JJJJ)V", sig := { parameters := [.long, .long, .long, .long], returnType := none }, accessFlags := 0, code := some k2c0 }
def k2c1 : Code := { maxStack := 5, maxLocals := 1, code := prog_95_method_3_code, exceptionTable := #[], attributes := #[] }
def k2m1 : Method := { name := "state", desc := "()[J", sig := { parameters := [], returnType := some (.array .long) }, accessFlags := 0, code := some k2c1 }
def k2c2 : Code := { maxStack := 5, maxLocals := 5, code := prog_95_method_5_code, exceptionTable := #[], attributes := #[] }
def k2m2 : Method := { name := "nextLong", desc := "()J", sig := { parameters := [], returnType := some .long }, accessFlags := 0, code := some k2c2 }
/-- com/example/genomatrix/genomatrix/Xoshiro256PlusPlus -/
def k2 : Class := { plain "com/example/genomatrix/genomatrix/Xoshiro256PlusPlus" (some 0) with
  accessFlags := 48
  interfaces := #[]
  cf := some (fileOf pool2 7 #[.nestMembers #[75]] #[{ accessFlags := 0, nameIndex := 5, descriptorIndex := 117, attributes := #[] }, { accessFlags := 0, nameIndex := 118, descriptorIndex := 119, attributes := #[] }, { accessFlags := 0, nameIndex := 55, descriptorIndex := 56, attributes := #[] }] 48 2 #[] #[{ accessFlags := 26, nameIndex := 112, descriptorIndex := 18, attributes := #[] }, { accessFlags := 2, nameIndex := 17, descriptorIndex := 18, attributes := #[] }, { accessFlags := 2, nameIndex := 23, descriptorIndex := 18, attributes := #[] }, { accessFlags := 2, nameIndex := 28, descriptorIndex := 18, attributes := #[] }, { accessFlags := 2, nameIndex := 33, descriptorIndex := 18, attributes := #[] }])
  fields := #[{ name := "GOLDEN_GAMMA", type := .long, accessFlags := 26, slot := 0, constantValue := 0 }, { name := "s0", type := .long, accessFlags := 2, slot := 0, constantValue := 0 }, { name := "s1", type := .long, accessFlags := 2, slot := 1, constantValue := 0 }, { name := "s2", type := .long, accessFlags := 2, slot := 2, constantValue := 0 }, { name := "s3", type := .long, accessFlags := 2, slot := 3, constantValue := 0 }]
  methods := #[k2m0, k2m1, k2m2]
  instanceTypes := #[.long, .long, .long, .long]
  staticTypes := #[.long]
  resolved := Array.replicate 148 none
  statics := none }

def pool3 : Array CpInfo := pool [(1, .class_ 2), (0, u "java/io/Serializable"), (0, .class_ 4), (0, u "java/lang/Object")] 2

/-- java/io/Serializable -/
def k3 : Class := { plain "java/io/Serializable" (some 0) with
  accessFlags := 1537
  interfaces := #[]
  cf := some (fileOf pool3 1 #[] #[] 1537 3 #[] #[])
  fields := #[]
  methods := #[]
  instanceTypes := #[]
  staticTypes := #[]
  resolved := Array.replicate 7 none
  statics := none }

def pool4 : Array CpInfo := pool [(2, .class_ 4), (1, u "java/lang/Object"), (0, u "<init>"), (0, u "()V"), (1, .class_ 10), (1, u "java/lang/Number"), (2, .class_ 14), (0, u "java/io/Serializable"), (0, u "serialVersionUID"), (0, u "J")] 20

def k4m0 : Method := { name := "<init>", desc := "()V", sig := { parameters := [], returnType := none }, accessFlags := 1, code := none }
/-- java/lang/Number -/
def k4 : Class := { plain "java/lang/Number" (some 0) with
  accessFlags := 1057
  interfaces := #[3]
  cf := some (fileOf pool4 8 #[] #[{ accessFlags := 1, nameIndex := 5, descriptorIndex := 6, attributes := #[] }] 1057 2 #[13] #[{ accessFlags := 26, nameIndex := 15, descriptorIndex := 16, attributes := #[] }])
  fields := #[{ name := "serialVersionUID", type := .long, accessFlags := 26, slot := 0, constantValue := 0 }]
  methods := #[k4m0]
  instanceTypes := #[]
  staticTypes := #[.long]
  resolved := Array.replicate 37 none
  statics := none }

def pool5 : Array CpInfo := pool [(1, .class_ 2), (0, u "java/lang/Comparable"), (0, .class_ 4), (0, u "java/lang/Object")] 7

/-- java/lang/Comparable -/
def k5 : Class := { plain "java/lang/Comparable" (some 0) with
  accessFlags := 1537
  interfaces := #[]
  cf := some (fileOf pool5 1 #[] #[] 1537 3 #[] #[])
  fields := #[]
  methods := #[]
  instanceTypes := #[]
  staticTypes := #[]
  resolved := Array.replicate 12 none
  statics := none }

def pool6 : Array CpInfo := pool [(1, .class_ 2), (0, u "java/lang/constant/Constable"), (0, .class_ 4), (0, u "java/lang/Object")] 6

/-- java/lang/constant/Constable -/
def k6 : Class := { plain "java/lang/constant/Constable" (some 0) with
  accessFlags := 1537
  interfaces := #[]
  cf := some (fileOf pool6 1 #[] #[] 1537 3 #[] #[])
  fields := #[]
  methods := #[]
  instanceTypes := #[]
  staticTypes := #[]
  resolved := Array.replicate 11 none
  statics := none }

def pool7 : Array CpInfo := pool [(1, .class_ 2), (0, u "java/lang/constant/ConstantDesc"), (0, .class_ 4), (0, u "java/lang/Object")] 32

/-- java/lang/constant/ConstantDesc -/
def k7 : Class := { plain "java/lang/constant/ConstantDesc" (some 0) with
  accessFlags := 1537
  interfaces := #[]
  cf := some (fileOf pool7 1 #[] #[] 1537 3 #[] #[])
  fields := #[]
  methods := #[]
  instanceTypes := #[]
  staticTypes := #[]
  resolved := Array.replicate 37 none
  statics := none }

def pool8 : Array CpInfo := pool [(1, .class_ 2), (0, u "java/lang/Long"), (232, .class_ 237), (1, u "java/lang/Long$LongCache"), (33, .class_ 272), (0, u "java/lang/Number"), (2, u "value"), (0, u "J"), (84, u "TYPE"), (0, u "Ljava/lang/Class;"), (0, .class_ 364), (0, u "java/lang/Comparable"), (0, .class_ 366), (0, u "java/lang/constant/Constable"), (0, .class_ 368), (0, u "java/lang/constant/ConstantDesc"), (0, u "MIN_VALUE"), (1, u "MAX_VALUE"), (4, u "SIZE"), (0, u "I"), (1, u "BYTES"), (1, u "serialVersionUID"), (95, u "rotateLeft"), (0, u "(JI)J")] 45

def k8c0 : Code := { maxStack := 5, maxLocals := 3, code := jdk_35_method_51_code, exceptionTable := #[], attributes := #[] }
def k8m0 : Method := { name := "rotateLeft", desc := "(JI)J", sig := { parameters := [.long, .int], returnType := some .long }, accessFlags := 9, code := some k8c0 }
/-- java/lang/Long -/
def k8 : Class := { plain "java/lang/Long" (some 4) with
  accessFlags := 49
  interfaces := #[5, 6, 7]
  cf := some (fileOf pool8 1 #[.nestMembers #[235]] #[{ accessFlags := 9, nameIndex := 477, descriptorIndex := 478, attributes := #[] }] 49 271 #[363, 365, 367] #[{ accessFlags := 25, nameIndex := 369, descriptorIndex := 276, attributes := #[] }, { accessFlags := 25, nameIndex := 371, descriptorIndex := 276, attributes := #[] }, { accessFlags := 25, nameIndex := 361, descriptorIndex := 362, attributes := #[] }, { accessFlags := 18, nameIndex := 275, descriptorIndex := 276, attributes := #[] }, { accessFlags := 25, nameIndex := 376, descriptorIndex := 377, attributes := #[] }, { accessFlags := 25, nameIndex := 379, descriptorIndex := 377, attributes := #[] }, { accessFlags := 26, nameIndex := 381, descriptorIndex := 276, attributes := #[] }])
  fields := #[{ name := "MIN_VALUE", type := .long, accessFlags := 25, slot := 0, constantValue := 0 }, { name := "MAX_VALUE", type := .long, accessFlags := 25, slot := 1, constantValue := 0 }, { name := "TYPE", type := (.object "java/lang/Class"), accessFlags := 25, slot := 2, constantValue := 0 }, { name := "value", type := .long, accessFlags := 18, slot := 0, constantValue := 0 }, { name := "SIZE", type := .int, accessFlags := 25, slot := 3, constantValue := 0 }, { name := "BYTES", type := .int, accessFlags := 25, slot := 4, constantValue := 0 }, { name := "serialVersionUID", type := .long, accessFlags := 26, slot := 5, constantValue := 0 }]
  methods := #[k8m0]
  instanceTypes := #[.long]
  staticTypes := #[.long, .long, (.object "java/lang/Class"), .int, .int, .long]
  resolved := Array.replicate 524 none
  statics := none }

def pool9 : Array CpInfo := pool [(1, u "java/lang/Cloneable"), (0, .class_ 1), (0, u "java/lang/Object"), (0, .class_ 3)] 3

/-- java/lang/Cloneable -/
def k9 : Class := { plain "java/lang/Cloneable" (some 0) with
  accessFlags := 1537
  interfaces := #[]
  cf := some (fileOf pool9 2 #[] #[] 1537 4 #[] #[])
  fields := #[]
  methods := #[]
  instanceTypes := #[]
  staticTypes := #[]
  resolved := Array.replicate 8 none
  statics := none }

/-- the primitive byte -/
def k10 : Class := { plain "byte" none with kind := .primitive 'B', accessFlags := 0x411 }
/-- [B -/
def k11 : Class := { plain "[B" (some 0) with kind := .array 10 .byte, interfaces := #[9, 3], accessFlags := 1041 }

/-- the primitive int -/
def k12 : Class := { plain "int" none with kind := .primitive 'I', accessFlags := 0x411 }
/-- [I -/
def k13 : Class := { plain "[I" (some 0) with kind := .array 12 .int, interfaces := #[9, 3], accessFlags := 1041 }

/-- the primitive long -/
def k14 : Class := { plain "long" none with kind := .primitive 'J', accessFlags := 0x411 }
/-- [J -/
def k15 : Class := { plain "[J" (some 0) with kind := .array 14 .long, interfaces := #[9, 3], accessFlags := 1041 }

def heap : Heap := #[]
def classes : Array Class := #[k0, k1, k2, k3, k4, k5, k6, k7, k8, k9, k10, k11, k12, k13, k14, k15]
def interned : List (Array UInt16 × Addr) := []
def slotsUsed : Nat := 0
def theMethod : MethodId := ⟨1, 1⟩
def args0 : Array Value := #[.long 1, .long 2, .long 3, .long 4]
def aboutOver (below : List Frame) : State where
  vm := { classes := classes, interned := interned.toArray }
  heap := heap
  slotsUsed := slotsUsed
  threads := #[{ frames := .invoking theMethod args0 :: below }]
def below0 : List Frame := [.native { method := ⟨0, 0⟩, args := #[] }]
def about1 : State := aboutOver below0
def p0 : Program := .bare "" "" ""
def e0 : Env := launch0.env 0 0 0
theorem w_frames : about1.frames = Frame.invoking theMethod args0 :: below0 := rfl
set_option maxRecDepth 65536 in
theorem w_args : argsFit about1.vm theMethod args0 = true := by decide +kernel
set_option maxRecDepth 65536 in
theorem w_heap : heapFits about1 = true := by decide +kernel
set_option maxRecDepth 65536 in
theorem w_runnable : about1.curStatus? = some .runnable := by decide +kernel
set_option maxRecDepth 65536 in
theorem w_alone : about1.alone = true := by decide +kernel
set_option maxRecDepth 65536 in
theorem w_named : about1.methodNamed? x = some theMethod := by decide +kernel
set_option maxRecDepth 65536 in
theorem w_hears : about1.hears theMethod below0 = true := by decide +kernel
set_option maxRecDepth 65536 in
theorem w_ripe : about1.ripe theMethod args0 below0 = true := by decide +kernel
theorem w_running : about1.status = .running := rfl
set_option maxRecDepth 65536 in
theorem w_room : about1.hasRoom e0.platform room_1 = true :=
  launch0.hasRoom_least _ room_1 (by decide +kernel) (by decide +kernel) (by decide +kernel) (by decide +kernel) (by decide +kernel) (by decide +kernel)
theorem allAtoms_all (ts : List Jvm.Cond) (a : Array Jvm.Value) (st : Jvm.State) : (allAtoms ts).before a st = ts.all (fun c => c.before a st) := by
  induction ts with
  | nil => rfl
  | cons c t ih =>
    show (Jvm.Cond.and c (allAtoms t)).before a st = _
    rw [Jvm.Cond.before_and, ih, List.all_cons]
def words1 : List Jvm.Cond := Jvm.Cond.code x code maxLocals ret :: tables_1
/-- a 'code' word, met by the world's own term for the bytes: nothing is compared byte by byte -/
theorem code_word {y : MethodName} {bytes : ByteArray} {mx : Nat} {rt : Option FieldType} {a : Array Value} {s : State} {m : MethodId} {meth : Method} {c : Code} (h1 : s.methodNamed? y = some m) (h2 : s.vm.method? m = some meth) (h3 : meth.code = some c) (h4 : c.code = bytes)
    (h5 : (c.maxLocals == mx && c.exceptionTable.isEmpty && decide (c.maxStack ≤ mostOperands) && decide (meth.sig.returnType = rt) && !meth.locks && decide (parseMethodDescriptor y.desc = some meth.sig)) = true) : (Jvm.Cond.code y bytes mx rt).before a s = true := by
  simp only [Bool.and_eq_true, beq_iff_eq, Bool.not_eq_true', decide_eq_true_eq] at h5
  obtain ⟨⟨⟨⟨⟨g1, g2⟩, g3⟩, g4⟩, g5⟩, g6⟩ := h5
  simp [Cond.before, Cond.holds, Cond.value, h1, h2, h3, h4, g1, g2, g3, g4, g5, g6]
def isCode : Jvm.Cond → Bool
  | .code _ _ _ _ => true
  | _ => false
theorem all_split {L : List Jvm.Cond} {P : Jvm.Cond → Bool} (h1 : L.all (fun c => isCode c || P c) = true) (h2 : ∀ c ∈ L.filter isCode, P c = true) : L.all P = true := by
  refine List.all_eq_true.mpr fun c hc => ?_
  have h := List.all_eq_true.mp h1 c hc
  rcases Bool.eq_false_or_eq_true (isCode c) with hi | hi
  · exact h2 c (List.mem_filter.mpr ⟨hc, hi⟩)
  · simpa [hi] using h
set_option maxRecDepth 65536 in
theorem w_c0 : (Jvm.Cond.code x code maxLocals ret).before args0 about1 = true := code_word (m := ⟨1, 1⟩) (meth := k1m1) (c := k1c1) (by decide +kernel) rfl rfl rfl (by decide +kernel)
set_option maxRecDepth 65536 in
theorem w_c1 : (Jvm.Cond.code ({ cls := "com/example/genomatrix/genomatrix/Xoshiro256PlusPlus", name := "<init>", desc := "(JJJJ)V" } : Jvm.MethodName) prog_95_method_2_code (9 : Nat) (Option.none : Option Jvm.ClassFile.FieldType)).before args0 about1 = true := code_word (m := ⟨2, 0⟩) (meth := k2m0) (c := k2c0) (by decide +kernel) rfl rfl rfl (by decide +kernel)
set_option maxRecDepth 65536 in
theorem w_c2 : (Jvm.Cond.code ({ cls := "java/lang/Object", name := "<init>", desc := "()V" } : Jvm.MethodName) object_method_1_code (1 : Nat) (Option.none : Option Jvm.ClassFile.FieldType)).before args0 about1 = true := code_word (m := ⟨0, 0⟩) (meth := k0m0) (c := k0c0) (by decide +kernel) rfl rfl rfl (by decide +kernel)
set_option maxRecDepth 65536 in
theorem w_c3 : (Jvm.Cond.code ({ cls := "com/example/genomatrix/genomatrix/Xoshiro256PlusPlus", name := "state", desc := "()[J" } : Jvm.MethodName) prog_95_method_3_code (1 : Nat) (Option.some (Jvm.ClassFile.FieldType.array Jvm.ClassFile.FieldType.long))).before args0 about1 = true := code_word (m := ⟨2, 1⟩) (meth := k2m1) (c := k2c1) (by decide +kernel) rfl rfl rfl (by decide +kernel)
set_option maxRecDepth 65536 in
theorem w_c4 : (Jvm.Cond.code ({ cls := "com/example/genomatrix/genomatrix/Xoshiro256PlusPlus", name := "nextLong", desc := "()J" } : Jvm.MethodName) prog_95_method_5_code (5 : Nat) (Option.some Jvm.ClassFile.FieldType.long)).before args0 about1 = true := code_word (m := ⟨2, 2⟩) (meth := k2m2) (c := k2c2) (by decide +kernel) rfl rfl rfl (by decide +kernel)
set_option maxRecDepth 65536 in
theorem w_c5 : (Jvm.Cond.code ({ cls := "java/lang/Long", name := "rotateLeft", desc := "(JI)J" } : Jvm.MethodName) jdk_35_method_51_code (3 : Nat) (Option.some Jvm.ClassFile.FieldType.long)).before args0 about1 = true := code_word (m := ⟨8, 0⟩) (meth := k8m0) (c := k8c0) (by decide +kernel) rfl rfl rfl (by decide +kernel)
def codes1 : List Jvm.Cond := [Jvm.Cond.code x code maxLocals ret, Jvm.Cond.code ({ cls := "com/example/genomatrix/genomatrix/Xoshiro256PlusPlus", name := "<init>", desc := "(JJJJ)V" } : Jvm.MethodName) prog_95_method_2_code (9 : Nat) (Option.none : Option Jvm.ClassFile.FieldType), Jvm.Cond.code ({ cls := "java/lang/Object", name := "<init>", desc := "()V" } : Jvm.MethodName) object_method_1_code (1 : Nat) (Option.none : Option Jvm.ClassFile.FieldType), Jvm.Cond.code ({ cls := "com/example/genomatrix/genomatrix/Xoshiro256PlusPlus", name := "state", desc := "()[J" } : Jvm.MethodName) prog_95_method_3_code (1 : Nat) (Option.some (Jvm.ClassFile.FieldType.array Jvm.ClassFile.FieldType.long)), Jvm.Cond.code ({ cls := "com/example/genomatrix/genomatrix/Xoshiro256PlusPlus", name := "nextLong", desc := "()J" } : Jvm.MethodName) prog_95_method_5_code (5 : Nat) (Option.some Jvm.ClassFile.FieldType.long), Jvm.Cond.code ({ cls := "java/lang/Long", name := "rotateLeft", desc := "(JI)J" } : Jvm.MethodName) jdk_35_method_51_code (3 : Nat) (Option.some Jvm.ClassFile.FieldType.long)]
set_option maxRecDepth 65536 in
theorem codes_eq : words1.filter isCode = codes1 := rfl
theorem w_codes : ∀ c ∈ words1.filter isCode, c.before args0 about1 = true := by
  rw [codes_eq]
  intro c hc
  simp only [codes1, List.mem_cons, List.not_mem_nil, or_false] at hc
  rcases hc with rfl | rfl | rfl | rfl | rfl | rfl
  · exact w_c0
  · exact w_c1
  · exact w_c2
  · exact w_c3
  · exact w_c4
  · exact w_c5
set_option maxRecDepth 65536 in
theorem w_t1 : (words1.take 24).all (fun c => isCode c || c.before args0 about1) = true := by decide +kernel
set_option maxRecDepth 65536 in
theorem w_t2 : (words1.drop 24).all (fun c => isCode c || c.before args0 about1) = true := by decide +kernel
theorem w_tables : (allAtoms (Jvm.Cond.code x code maxLocals ret :: tables_1)).before args0 about1 = true := by
  rw [allAtoms_all]
  show words1.all (fun c => c.before args0 about1) = true
  refine all_split ?_ w_codes
  rw [← List.take_append_drop 24 words1, List.all_append, w_t1, w_t2]
  rfl
set_option maxRecDepth 65536 in
theorem w_case : (Jvm.Cond.and given_1 narrow_1).before args0 about1 = true := by decide +kernel
theorem w_applies : (headSpec (Jvm.Cond.code x code maxLocals ret :: tables_1) room_1).applies x e0.platform about1 = true :=
  (Spec.applies_iff w_frames).mpr ⟨w_running, w_runnable, w_alone, w_named, w_hears, w_ripe, w_room, w_tables⟩
theorem atStart : AtStart classFile x code maxLocals ret World_1 tables_1 room_1 Calls_1 rest_1 Pre_1 launch0 p0 e0 about1 theMethod args0 below0 :=
  ⟨lists_1, trivial, launch0.admits_env _ _ _, launch0.least_env, fairChoices_fair.cas, fairChoices_fair.clock, w_frames, w_args, w_heap, w_applies, trivial, trivial, w_case⟩
end start1
theorem witness_1 : WitnessClaimed_1 := ⟨start1.p0, start1.e0, start1.about1, start1.theMethod, start1.args0, start1.below0, start1.atStart⟩
end Jvm.Pilot.@@N@@
