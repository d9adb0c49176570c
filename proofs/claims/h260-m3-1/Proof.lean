import JvmDerived
import JvmDerived.Pilot.@@N@@Statement
import JvmDerived.Pilot.@@N@@Code
set_option linter.unusedVariables false
set_option linter.unusedSimpArgs false
namespace Jvm.Pilot.@@N@@
open Jvm Jvm.ClassFile Sem Op Lib Jvm.Free Jvm.Stand Jvm.LawKit Jvm.RoadKit Bundle Jvm.Pilot.@@N@@.Jvm.D
/-! the walk in continuation style: 'Fin': from F on the run comes to an end that answers Q -/
section Own
variable {p : Program} {l : Launch} {e : Env} {R : Room} {s : State} {m : MethodId} {args : Array Value} {below : List Frame} {meth : Method} {c : Code} {T : State} {locs : List Loc} {cells slots : Nat}
def OFin (p : Program) (e : Env) (below : List Frame) (Q : Outcome → State → Prop) (F : State) : Prop := ∃ s₂ o, Steps p.tables e below F s₂ ∧ s₂.status = .running ∧ Ended s₂ below o ∧ Q o s₂
def ORet (Q : Option Value → Heap → List Loc → Prop) (s : State) (C S : Nat) (o : Outcome) (U' : State) : Prop := ∃ v L, o = .returned v ∧ Q v U'.heap L ∧ FrameEnd s o U' L C S
theorem OFin.go {Q : Outcome → State → Prop} {F F' : State} (st : ∀ t, Steps p.tables e below F' t → Steps p.tables e below F t) (h : OFin p e below Q F') : OFin p e below Q F := by
  obtain ⟨s2, o, h1, r⟩ := h; exact ⟨s2, o, st _ h1, r⟩
theorem OFin.tr {Q : Outcome → State → Prop} {F F' : State} (st : Steps p.tables e below F F') (h : OFin p e below Q F') : OFin p e below Q F := by
  obtain ⟨s2, o, h1, r⟩ := h; exact ⟨s2, o, st.trans h1, r⟩
variable {Q : Option Value → Heap → List Loc → Prop} {C S : Nat}
theorem finZ (X : Stand p l e R s m args below meth c T locs cells slots) (hx : p.tables.exec = Jvm.exec) (hlocks : meth.locks = false) {t : FieldType} (hret : meth.sig.returnType = some t) (ht : t = .boolean ∨ t = .byte ∨ t = .char ∨ t = .short) {pc : Nat} (hd : decode c.code pc = .ok (.ireturn, 1)) {z z' : Int32} (hz : nar t z = z') (hc : cells ≤ C) (hs : slots ≤ S) {Ls : Array Slot} {rest : List Value} (hQ : Q (some (.int z')) T.heap locs) : OFin p e below (ORet Q s C S) (T.setTop (mkF m pc Ls (.int z :: rest))) := by
  subst hz
  obtain ⟨fs, hr, hrun, hended, hW, hsame⟩ := X.leave (v := some (.int (nar t z))) (fun h => by rw [hret] at h; cases h)
  exact ⟨_, _, retN X hx (t := t) hret ht hd hr, hrun, hended, _, _, rfl, hQ, ⟨_, rfl⟩, hW, hsame.mono hc hs⟩
theorem finI (X : Stand p l e R s m args below meth c T locs cells slots) (hx : p.tables.exec = Jvm.exec) (hlocks : meth.locks = false) (hret : meth.sig.returnType = some .int) {pc : Nat} (hd : decode c.code pc = .ok (.ireturn, 1)) {z : Int32} (hc : cells ≤ C) (hs : slots ≤ S) {Ls : Array Slot} {rest : List Value} (hQ : Q (some (.int z)) T.heap locs) : OFin p e below (ORet Q s C S) (T.setTop (mkF m pc Ls (.int z :: rest))) := by
  obtain ⟨fs, hr, hrun, hended, hW, hsame⟩ := X.leave (v := some (.int z)) (fun h => by rw [hret] at h; cases h)
  exact ⟨_, _, retOut X hx hret rfl (Or.inl ⟨rfl, Or.inl rfl, _, rfl⟩) hd hr, hrun, hended, _, _, rfl, hQ, ⟨_, rfl⟩, hW, hsame.mono hc hs⟩
theorem finJ (X : Stand p l e R s m args below meth c T locs cells slots) (hx : p.tables.exec = Jvm.exec) (hlocks : meth.locks = false) (hret : meth.sig.returnType = some .long) {pc : Nat} (hd : decode c.code pc = .ok (.lreturn, 1)) {z : Int64} (hc : cells ≤ C) (hs : slots ≤ S) {Ls : Array Slot} {rest : List Value} (hQ : Q (some (.long z)) T.heap locs) : OFin p e below (ORet Q s C S) (T.setTop (mkF m pc Ls (.long z :: rest))) := by
  obtain ⟨fs, hr, hrun, hended, hW, hsame⟩ := X.leave (v := some (.long z)) (fun h => by rw [hret] at h; cases h)
  exact ⟨_, _, retOut X hx hret rfl (Or.inr (Or.inl ⟨rfl, rfl, _, rfl⟩)) hd hr, hrun, hended, _, _, rfl, hQ, ⟨_, rfl⟩, hW, hsame.mono hc hs⟩
theorem finA (X : Stand p l e R s m args below meth c T locs cells slots) (hx : p.tables.exec = Jvm.exec) (hlocks : meth.locks = false) {w : Value} (hw : w.isRef = true) {t : FieldType} (hret : meth.sig.returnType = some t) (ht : t.isReference = true) {pc : Nat} (hd : decode c.code pc = .ok (.areturn, 1)) (hc : cells ≤ C) (hs : slots ≤ S) {Ls : Array Slot} {rest : List Value} (hQ : Q (some w) T.heap locs) : OFin p e below (ORet Q s C S) (T.setTop (mkF m pc Ls (w :: rest))) := by
  obtain ⟨fs, hr, hrun, hended, hW, hsame⟩ := X.leave (v := some w) (fun h => by rw [hret] at h; cases h)
  refine ⟨_, _, retOut X hx hret ?_ (Or.inr (Or.inr (Or.inr (Or.inr ⟨rfl, ht, hw⟩)))) hd hr, hrun, hended, _, _, rfl, hQ, ⟨_, rfl⟩, hW, hsame.mono hc hs⟩
  cases w <;> first | (simp [Value.isRef] at hw; done) | (cases t <;> first | rfl | (simp [FieldType.isReference] at ht; done))
theorem finV (X : Stand p l e R s m args below meth c T locs cells slots) (hx : p.tables.exec = Jvm.exec) (hlocks : meth.locks = false) (hret : meth.sig.returnType = none) {pc : Nat} (hd : decode c.code pc = .ok (.return_, 1)) (hc : cells ≤ C) (hs : slots ≤ S) {Ls : Array Slot} (hQ : Q none T.heap locs) : OFin p e below (ORet Q s C S) (T.setTop (mkF m pc Ls [])) := by
  obtain ⟨fs, hr, hrun, hended, hW, hsame⟩ := X.leave (v := none) (fun _ => rfl)
  exact ⟨_, _, X.returnOut hx hret hd hr, hrun, hended, _, _, rfl, hQ, ⟨_, rfl⟩, hW, hsame.mono hc hs⟩
end Own
/-- a boolean as the int that bears it -/
def bi (P : Prop) [Decidable P] : Int32 := if P then 1 else 0
theorem bi_t {P : Prop} [Decidable P] (h : P) : bi P = 1 := if_pos h
theorem bi_f {P : Prop} [Decidable P] (h : ¬ P) : bi P = 0 := if_neg h
theorem nar_bi (P : Prop) [Decidable P] : nar .boolean (bi P) = bi P := by unfold bi; split <;> rfl
theorem bi_iff {P Q : Prop} [Decidable P] [Decidable Q] : bi P = bi Q ↔ (P ↔ Q) := by
  unfold bi; by_cases h : P <;> by_cases k : Q <;> simp [h, k]
theorem bi0 {P : Prop} [Decidable P] : (bi P = 0) ↔ ¬ P := by unfold bi; by_cases h : P <;> simp [h]
theorem bi_ne_t {P : Prop} [Decidable P] (h : P) : ifCond.holds .ne (bi P) = true := by rw [bi_t h]; rfl
theorem bi_ne_f {P : Prop} [Decidable P] (h : ¬ P) : ifCond.holds .ne (bi P) = false := by rw [bi_f h]; rfl
theorem bi_eq_t {P : Prop} [Decidable P] (h : ¬ P) : ifCond.holds .eq (bi P) = true := by rw [bi_f h]; rfl
theorem bi_eq_f {P : Prop} [Decidable P] (h : P) : ifCond.holds .eq (bi P) = false := by rw [bi_t h]; rfl
theorem lc_lt_t {x y : Int64} (h : x < y) : ifCond.holds .lt (lcmpW x y) = true := (if0 _ _).trans (tlt ((lw_lt x y).mpr h)).1
theorem lc_lt_f {x y : Int64} (h : ¬ x < y) : ifCond.holds .lt (lcmpW x y) = false := (if0 _ _).trans (flt fun q => h ((lw_lt x y).mp q)).1
theorem lc_ge_t {x y : Int64} (h : ¬ x < y) : ifCond.holds .ge (lcmpW x y) = true := (if0 _ _).trans (flt fun q => h ((lw_lt x y).mp q)).2.1
theorem lc_ge_f {x y : Int64} (h : x < y) : ifCond.holds .ge (lcmpW x y) = false := (if0 _ _).trans (tlt ((lw_lt x y).mpr h)).2.1
theorem lc_gt_t {x y : Int64} (h : y < x) : ifCond.holds .gt (lcmpW x y) = true := (if0 _ _).trans (tlt ((lw_gt x y).mpr h)).2.2.1
theorem lc_gt_f {x y : Int64} (h : ¬ y < x) : ifCond.holds .gt (lcmpW x y) = false := (if0 _ _).trans (flt fun q => h ((lw_gt x y).mp q)).2.2.1
theorem lc_le_t {x y : Int64} (h : ¬ y < x) : ifCond.holds .le (lcmpW x y) = true := (if0 _ _).trans (flt fun q => h ((lw_gt x y).mp q)).2.2.2
theorem lc_le_f {x y : Int64} (h : y < x) : ifCond.holds .le (lcmpW x y) = false := (if0 _ _).trans (tlt ((lw_gt x y).mpr h)).2.2.2
theorem lc_eq_t {x y : Int64} (h : x = y) : ifCond.holds .eq (lcmpW x y) = true := (if0 _ _).trans (teq ((lw_eq x y).mpr h)).1
theorem lc_eq_f {x y : Int64} (h : ¬ x = y) : ifCond.holds .eq (lcmpW x y) = false := (if0 _ _).trans (feq fun q => h ((lw_eq x y).mp q)).1
theorem lc_ne_t {x y : Int64} (h : ¬ x = y) : ifCond.holds .ne (lcmpW x y) = true := (if0 _ _).trans (feq fun q => h ((lw_eq x y).mp q)).2
theorem lc_ne_f {x y : Int64} (h : x = y) : ifCond.holds .ne (lcmpW x y) = false := (if0 _ _).trans (teq ((lw_eq x y).mpr h)).2
/-! arrays by their places -/
def upd {α : Type} (f : Nat → α) (i : Nat) (v : α) : Nat → α := fun j => if j = i then v else f j
theorem upd_hit {α : Type} (f : Nat → α) (i : Nat) (v : α) : upd f i v i = v := if_pos rfl
theorem upd_miss {α : Type} {f : Nat → α} {i j : Nat} {v : α} (h : j ≠ i) : upd f i v j = f j := if_neg h
def Ara (Z : State) (h : Heap) (a : Addr) (ty : FieldType) (n : Nat) (f : Nat → Value) : Prop := ∃ c : Cell, Arr Z h a c ty ∧ c.slots.size = n ∧ n < 2 ^ 31 ∧ ∀ i, i < n → c.slots[i]? = some (f i)
section Ara
variable {Z : State} {h h' : Heap} {a b : Addr} {ty : FieldType} {n : Nat} {f f' : Nat → Value} {sl : Nat} {v : Value} {ws : List Addr}
theorem Ara.lt (F : Ara Z h a ty n f) : a < h.size := by obtain ⟨c, A, -⟩ := F; exact A.lt
theorem Ara.ext (F : Ara Z h a ty n f) (E : Ext h h') : Ara Z h' a ty n f := by obtain ⟨c, A, r⟩ := F; exact ⟨c, A.ext E, r⟩
theorem Ara.other (F : Ara Z h b ty n f) (W : Wr h h' a sl v) (q : b ≠ a) : Ara Z h' b ty n f := by obtain ⟨c, A, r⟩ := F; exact ⟨c, A.other W q, r⟩
theorem Ara.keep (F : Ara Z h a ty n f) (K : Keep h h' ws) (q : a ∉ ws) : Ara Z h' a ty n f := by obtain ⟨c, A, r⟩ := F; exact ⟨c, ⟨K.2.1 a c A.1 q, A.2⟩, r⟩
theorem Ara.set (F : Ara Z h a ty n f) (W : Wr h h' a sl v) : Ara Z h' a ty n (upd f sl v) := by
  obtain ⟨c, A, r1, r2, r3⟩ := F
  refine ⟨_, A.same W, by rw [sz_set]; exact r1, r2, fun i hi => ?_⟩
  by_cases q : i = sl
  · subst q; rw [upd_hit]; simp [Cell.setSlot, r1, hi]
  · rw [upd_miss q]; simp only [Cell.setSlot]; rw [Array.getElem?_setIfInBounds_ne (fun z => q z.symm)]; exact r3 i hi
theorem Ara.new {k : ClassId} {z : Int32} (A : Arr Z h a (newA k ty z) ty) (hn : z.toNatClampNeg = n) : Ara Z h a ty n (fun _ => defaultValue ty) := by
  refine ⟨_, A, by rw [sz_new]; exact hn, ?_, fun i hi => ?_⟩
  · rw [← hn]; have := z.toInt_lt; unfold Int32.toNatClampNeg; omega
  · rw [← hn] at hi; simp [newA, hi]
theorem Ara.congr (F : Ara Z h a ty n f) (q : ∀ i, i < n → f i = f' i) : Ara Z h a ty n f' := by obtain ⟨c, A, r1, r2, r3⟩ := F; exact ⟨c, A, r1, r2, fun i hi => by rw [← q i hi]; exact r3 i hi⟩
variable {p : Program} {l : Launch} {e : Env} {R : Room} {s : State} {m : MethodId} {args : Array Value} {below : List Frame} {meth : Method} {c : Code} {T : State} {locs : List Loc} {cells slots : Nat} {j : Int32} {i : Nat} {rest : List Value} {g : JFrame} {t : State} {x : Value}
theorem hin_of {cl : Cell} (S : cl.slots.size = n) (hj0 : ¬ j < 0) (hj : j.toNatClampNeg = i) (hi : i < n) : ¬ (j < 0 ∨ cl.slots.size ≤ j.toNatClampNeg) := by rw [S, hj]; exact fun q => q.elim hj0 (Nat.not_le.mpr hi)
theorem rdB (X : Stand p l e R s m args below meth c T locs cells slots) (hx : p.tables.exec = Jvm.exec) (hZ : Z.Warmed39 s.vm) (eT : T.heap = h) (F : Ara Z h a .byte n f) (hj0 : ¬ j < 0) (hj : j.toNatClampNeg = i) (hi : i < n) (hv : f i = x) (hg : g.method = m) (hs : g.stack = .int j :: .ref a :: rest) (hd : decode c.code g.pc = .ok (.baload, 1))
    (k : Steps p.tables e below (T.setTop { g with pc := g.pc + 1, stack := x :: rest }) t) : Steps p.tables e below (T.setTop g) t := by
  obtain ⟨cl, A, r1, r2, r3⟩ := F
  exact X.baloadBytes hx (by rw [eT]; exact A.1) (State.isArrayOf_alike hZ.alike A.2.1) A.2.2 (hin_of r1 hj0 hj hi) (by rw [hj, r3 i hi, hv]) hg hs hd _ k
theorem rdI (X : Stand p l e R s m args below meth c T locs cells slots) (hx : p.tables.exec = Jvm.exec) (hZ : Z.Warmed39 s.vm) (eT : T.heap = h) (F : Ara Z h a .int n f) (hj0 : ¬ j < 0) (hj : j.toNatClampNeg = i) (hi : i < n) (hv : f i = x) (hg : g.method = m) (hs : g.stack = .int j :: .ref a :: rest) (hd : decode c.code g.pc = .ok (.iaload, 1))
    (k : Steps p.tables e below (T.setTop { g with pc := g.pc + 1, stack := x :: rest }) t) : Steps p.tables e below (T.setTop g) t := by
  obtain ⟨cl, A, r1, r2, r3⟩ := F
  exact X.iaload hx (by rw [eT]; exact A.1) (State.isArrayOf_alike hZ.alike A.2.1) A.2.2 (hin_of r1 hj0 hj hi) (by rw [hj, r3 i hi, hv]) hg hs hd _ k
theorem rdJ (X : Stand p l e R s m args below meth c T locs cells slots) (hx : p.tables.exec = Jvm.exec) (hZ : Z.Warmed39 s.vm) (eT : T.heap = h) (F : Ara Z h a .long n f) (hj0 : ¬ j < 0) (hj : j.toNatClampNeg = i) (hi : i < n) (hv : f i = x) (hg : g.method = m) (hs : g.stack = .int j :: .ref a :: rest) (hd : decode c.code g.pc = .ok (.laload, 1))
    (k : Steps p.tables e below (T.setTop { g with pc := g.pc + 1, stack := x :: rest }) t) : Steps p.tables e below (T.setTop g) t := by
  obtain ⟨cl, A, r1, r2, r3⟩ := F
  exact X.laload hx (by rw [eT]; exact A.1) (State.isArrayOf_alike hZ.alike A.2.1) A.2.2 (hin_of r1 hj0 hj hi) (by rw [hj, r3 i hi, hv]) hg hs hd _ k
theorem rdR (X : Stand p l e R s m args below meth c T locs cells slots) (hx : p.tables.exec = Jvm.exec) (hZ : Z.Warmed39 s.vm) (eT : T.heap = h) (F : Ara Z h a ty n f) (hty : ty.isReference = true) (hj0 : ¬ j < 0) (hj : j.toNatClampNeg = i) (hi : i < n) (hv : f i = x) (hg : g.method = m) (hs : g.stack = .int j :: .ref a :: rest) (hd : decode c.code g.pc = .ok (.aaload, 1))
    (k : Steps p.tables e below (T.setTop { g with pc := g.pc + 1, stack := x :: rest }) t) : Steps p.tables e below (T.setTop g) t := by
  obtain ⟨cl, A, r1, r2, r3⟩ := F
  exact X.aaload hx (by rw [eT]; exact A.1) (State.isArrayOf_alike hZ.alike A.2.1) hty A.2.2 (hin_of r1 hj0 hj hi) (by rw [hj, r3 i hi, hv]) hg hs hd _ k
theorem alen (X : Stand p l e R s m args below meth c T locs cells slots) (hx : p.tables.exec = Jvm.exec) (hZ : Z.Warmed39 s.vm) (eT : T.heap = h) (F : Ara Z h a ty n f) {z : Int32} (hz : n.toInt32 = z) (hg : g.method = m) (hs : g.stack = .ref a :: rest) (hd : decode c.code g.pc = .ok (.arraylength, 1))
    (k : Steps p.tables e below (T.setTop { g with pc := g.pc + 1, stack := .int z :: rest }) t) : Steps p.tables e below (T.setTop g) t := by
  obtain ⟨cl, A, r1, r2, r3⟩ := F
  refine X.arraylength hx (by rw [eT]; exact A.1) (State.isArrayOf_alike hZ.alike A.2.1) hg hs hd _ ?_
  rw [r1, hz]; exact k
theorem wrB (X : Stand p l e R s m args below meth c T locs cells slots) (hx : p.tables.exec = Jvm.exec) (hZ : Z.Warmed39 s.vm) (eT : T.heap = h) (F : Ara Z h a .byte n f) {y : Int32} (hj0 : ¬ j < 0) (hj : j.toNatClampNeg = i) (hi : i < n) {y' : Int32} (hy : nar .byte y = y') (hg : g.method = m) (hs : g.stack = .int y :: .int j :: .ref a :: rest) (hd : decode c.code g.pc = .ok (.bastore, 1)) :
    ∃ T' h', Stand p l e R s m args below meth c T' (locs ++ [⟨a, i⟩]) cells slots ∧ T'.heap = h' ∧ Wr h h' a i (.int y') ∧ ∀ target, Steps p.tables e below (T'.setTop { g with pc := g.pc + 1, stack := rest }) target → Steps p.tables e below (T.setTop g) target := by
  subst hj hy
  obtain ⟨cl, A, r1, r2, r3⟩ := F
  exact stB X hx hZ eT A (hin_of r1 hj0 rfl hi) hg hs hd
theorem wrI (X : Stand p l e R s m args below meth c T locs cells slots) (hx : p.tables.exec = Jvm.exec) (hZ : Z.Warmed39 s.vm) (eT : T.heap = h) (F : Ara Z h a .int n f) {y : Int32} (hj0 : ¬ j < 0) (hj : j.toNatClampNeg = i) (hi : i < n) (hg : g.method = m) (hs : g.stack = .int y :: .int j :: .ref a :: rest) (hd : decode c.code g.pc = .ok (.iastore, 1)) :
    ∃ T' h', Stand p l e R s m args below meth c T' (locs ++ [⟨a, i⟩]) cells slots ∧ T'.heap = h' ∧ Wr h h' a i (.int y) ∧ ∀ target, Steps p.tables e below (T'.setTop { g with pc := g.pc + 1, stack := rest }) target → Steps p.tables e below (T.setTop g) target := by
  subst hj
  obtain ⟨cl, A, r1, r2, r3⟩ := F
  exact stI X hx hZ eT A (hin_of r1 hj0 rfl hi) hg hs hd
theorem wrJ (X : Stand p l e R s m args below meth c T locs cells slots) (hx : p.tables.exec = Jvm.exec) (hZ : Z.Warmed39 s.vm) (eT : T.heap = h) (F : Ara Z h a .long n f) {y : Int64} (hj0 : ¬ j < 0) (hj : j.toNatClampNeg = i) (hi : i < n) (hg : g.method = m) (hs : g.stack = .long y :: .int j :: .ref a :: rest) (hd : decode c.code g.pc = .ok (.lastore, 1)) :
    ∃ T' h', Stand p l e R s m args below meth c T' (locs ++ [⟨a, i⟩]) cells slots ∧ T'.heap = h' ∧ Wr h h' a i (.long y) ∧ ∀ target, Steps p.tables e below (T'.setTop { g with pc := g.pc + 1, stack := rest }) target → Steps p.tables e below (T.setTop g) target := by
  subst hj
  obtain ⟨cl, A, r1, r2, r3⟩ := F
  exact stJ X hx hZ eT A (hin_of r1 hj0 rfl hi) hg hs hd
end Ara
theorem wr_le {h h' : Heap} {a : Addr} {sl : Nat} {v : Value} (W : Wr h h' a sl v) : h.size ≤ h'.size := Nat.le_of_eq W.size.symm
theorem up_lt {k a b : Nat} (h : a < k) (g : b = k) : a ≠ b := by omega
theorem nar_b (y : Int32) : nar .byte y.toInt8.toInt32 = y.toInt8.toInt32 := by show y.toInt8.toInt32.toInt8.toInt32 = _; rw [Int8.toInt8_toInt32]
theorem Sta_keep {Z : State} {h h' : Heap} {C n d : String} {v : Value} {ws : List Addr} {k : Nat} (F : Sta Z h C n d v) (K : Keep h h' ws) (q : ∀ x ∈ ws, Z.heap.size ≤ x) (hst : ∀ cf kk i f st, Z.fieldFound? C n d = some (cf, kk, i, f) → kk.statics = some st → st < Z.heap.size) : Sta Z h' C n d v := by
  obtain ⟨cf, i, kk, f, st, cell, h1, h2, h3, h4, h5, r⟩ := F
  exact ⟨cf, i, kk, f, st, cell, h1, h2, h3, h4, K.2.1 _ _ h5 (fun z => absurd (hst _ _ _ _ _ h1 h4) (Nat.not_lt.mpr (q _ z))), r⟩
theorem eqv_r {Z : State} {args : Array Value} {X F : Term} {idx : List Nat} {y : Addr} (hF : F.eval args Z none idx Z = some (.ref y)) (h : (Cond.eq X F).value args Z none Z idx = some true) : X.eval args Z none idx Z = some (.ref y) := by
  cases hx : X.eval args Z none idx Z with
  | none => simp [Cond.value, hF, hx] at h
  | some x => cases x <;> simp [Cond.value, hF, hx] at h ⊢ <;> exact h
/-! calls by a contract, in one piece -/
section Calls
variable {p : Program} {l : Launch} {e : Env} {R : Room} {s : State} {m : MethodId} {args : Array Value} {below : List Frame} {meth : Method} {c : Code} {T : State} {locs : List Loc} {cells slots : Nat} {Z : State} {a0 : Array Value} {h : Heap}
abbrev Meets1 (l : Launch) (y : MethodName) (bytes : ByteArray) (maxL : Nat) (ret : Option FieldType) (rm : Room) (Z : State) (as' : Array Value) (h : Heap) (Q : Option Value → Heap → List Loc → Prop) : Prop :=
  MetFree l y (head1 [Cond.code y bytes maxL ret] rm) (fun a U => a = as' ∧ Z.Warmed39 U.vm ∧ U.heap = h) (fun _ _ _ _ _ => True) (fun _ U o U' => ∃ v L, o = .returned v ∧ Q v U'.heap L ∧ FrameEnd U o U' L rm.cells rm.slots)
theorem callQ (X : Stand p l e R s m args below meth c T locs cells slots) (hx : p.tables.exec = Jvm.exec) (hZ : Z.Warmed39 s.vm) {own : String} {index : Nat} {y : MethodName} {bytes : ByteArray} {maxL : Nat} {ret : Option FieldType} (hown : s.vm.findClass own = some m.cls)
    (w1 : (Cond.methodLink own index y).before a0 Z = true) (w2 : (Cond.static y).before a0 Z = true) (w3 : (Cond.initialized y.cls).before a0 Z = true) (w4 : (Cond.code y bytes maxL ret).before a0 Z = true) (hy : y.cls ≠ "java/lang/invoke/MethodHandle" ∧ y.cls ≠ "java/lang/invoke/VarHandle")
    {rm : Room} {argsL rest : List Value} {Q : Option Value → Heap → List Loc → Prop} (hM : Meets1 l y bytes maxL ret rm Z argsL.toArray h Q) {W : Nat} (hf : rm.frames + 1 ≤ R.frames) (hl : W + (maxL + 11) + rm.locals ≤ R.locals) (eT : T.heap = h)
    {g : JFrame} (hg : g.method = m) (hsize : g.locals.size = c.maxLocals) (hlen : ∀ sig, parseMethodDescriptor y.desc = some sig → argsL.length = sig.parameters.length) (hstack : g.stack = argsL.reverse ++ rest) (hW : 2 * g.monitorRoom + (rest.map fun v => v.category).sum ≤ W) (hd : decode c.code g.pc = .ok (.invokestatic index, 3)) (hc : cells + rm.cells ≤ R.cells) (hs : slots + rm.slots ≤ R.slots) :
    ∃ v T' L, Stand p l e R s m args below meth c T' (locs ++ L) (cells + rm.cells) (slots + rm.slots) ∧ Q v T'.heap L ∧ ∀ target, Steps p.tables e below (T'.setTop { g with pc := g.pc + 3, stack := v.toList ++ rest }) target → Steps p.tables e below (T.setTop g) target := by
  obtain ⟨v, _, ⟨T', L', k', n'⟩, -, X', ⟨L, hQ, hl', hk', hn'⟩, st⟩ := Jvm.LawKit.callS X hx hown (mvT hZ w1) (mvT hZ w2) (mvT hZ w3) (mvT hZ w4) hy (backOf (W := W) hM hZ w4 w3 hf hl) hg hsize hlen hstack hW hd (fun _ _ => ⟨rfl, eT, hc, hs⟩)
  dsimp only [Pt.U, Pt.locs, Pt.cells, Pt.slots] at X' hl' hk' hn' st hQ
  subst hl' hk' hn'
  exact ⟨v, T', L, X', hQ, st⟩
theorem specQ (X : Stand p l e R s m args below meth c T locs cells slots) (hx : p.tables.exec = Jvm.exec) (hZ : Z.Warmed39 s.vm) {own : String} {index : Nat} {y : MethodName} {bytes : ByteArray} {maxL : Nat} (hy1 : y.name = "<init>") (hown : s.vm.findClass own = some m.cls)
    (w1 : (Cond.methodLink own index y).before a0 Z = true) (w2 : (Cond.instanceMethod y).before a0 Z = true) (w3 : (Cond.initialized y.cls).before a0 Z = true) (w4 : (Cond.code y bytes maxL none).before a0 Z = true) (hy : y.cls ≠ "java/lang/invoke/MethodHandle" ∧ y.cls ≠ "java/lang/invoke/VarHandle")
    {rm : Room} {a : Addr} {argsL rest : List Value} {Q : Option Value → Heap → List Loc → Prop} (hM : Meets1 l y bytes maxL none rm Z (.ref a :: argsL).toArray h Q) {W : Nat} (hf : rm.frames + 1 ≤ R.frames) (hl : W + (maxL + 11) + rm.locals ≤ R.locals) (eT : T.heap = h)
    {g : JFrame} (hg : g.method = m) (hsize : g.locals.size = c.maxLocals) (hlen : ∀ sig, parseMethodDescriptor y.desc = some sig → argsL.length = sig.parameters.length) (hstack : g.stack = argsL.reverse ++ .ref a :: rest) (hW : 2 * g.monitorRoom + (rest.map fun v => v.category).sum ≤ W) (hd : decode c.code g.pc = .ok (.invokespecial index, 3)) (hc : cells + rm.cells ≤ R.cells) (hs : slots + rm.slots ≤ R.slots) :
    ∃ v T' L, Stand p l e R s m args below meth c T' (locs ++ L) (cells + rm.cells) (slots + rm.slots) ∧ Q v T'.heap L ∧ ∀ target, Steps p.tables e below (T'.setTop { g with pc := g.pc + 3, stack := v.toList ++ rest }) target → Steps p.tables e below (T.setTop g) target := by
  obtain ⟨v, _, ⟨T', L', k', n'⟩, -, X', ⟨L, hQ, hl', hk', hn'⟩, st⟩ := X.specialBack hx hy1 hown (mvT hZ w1) (mvT hZ w2) (mvT hZ w4) hy (backOf (W := W) hM hZ w4 w3 hf hl) hg hsize (Steps.refl _) hlen hstack hW hd (fun _ _ => ⟨rfl, eT, hc, hs⟩)
  dsimp only [Pt.U, Pt.locs, Pt.cells, Pt.slots] at X' hl' hk' hn' st hQ
  subst hl' hk' hn'
  exact ⟨v, T', L, X', hQ, fun t k => st.trans k⟩
theorem virtQ (X : Stand p l e R s m args below meth c T locs cells slots) (hx : p.tables.exec = Jvm.exec) (hZ : Z.Warmed39 s.vm) {own : String} {index : Nat} {y : MethodName} {bytes : ByteArray} {maxL : Nat} {ret : Option FieldType} (hown : s.vm.findClass own = some m.cls)
    (w1 : (Cond.methodLink own index y).before a0 Z = true) (w2 : (Cond.instanceMethod y).before a0 Z = true) (w3 : (Cond.initialized y.cls).before a0 Z = true) (w4 : (Cond.code y bytes maxL ret).before a0 Z = true) (w5 : (Cond.declares y).before a0 Z = true) (w6 : (Cond.selects y.cls y y).before a0 Z = true) (hy : y.cls ≠ "java/lang/invoke/MethodHandle" ∧ y.cls ≠ "java/lang/invoke/VarHandle")
    {rm : Room} {a : Addr} (E : Exa Z h a y.cls) {argsL rest : List Value} {Q : Option Value → Heap → List Loc → Prop} (hM : Meets1 l y bytes maxL ret rm Z (.ref a :: argsL).toArray h Q) {W : Nat} (hf : rm.frames + 1 ≤ R.frames) (hl : W + (maxL + 11) + rm.locals ≤ R.locals) (eT : T.heap = h)
    {g : JFrame} (hg : g.method = m) (hsize : g.locals.size = c.maxLocals) (hlen : ∀ sig, parseMethodDescriptor y.desc = some sig → argsL.length = sig.parameters.length) (hstack : g.stack = argsL.reverse ++ .ref a :: rest) (hW : 2 * g.monitorRoom + (rest.map fun v => v.category).sum ≤ W) (hd : decode c.code g.pc = .ok (.invokevirtual index, 3)) (hc : cells + rm.cells ≤ R.cells) (hs : slots + rm.slots ≤ R.slots) :
    ∃ v T' L, Stand p l e R s m args below meth c T' (locs ++ L) (cells + rm.cells) (slots + rm.slots) ∧ Q v T'.heap L ∧ ∀ target, Steps p.tables e below (T'.setTop { g with pc := g.pc + 3, stack := v.toList ++ rest }) target → Steps p.tables e below (T.setTop g) target := by
  obtain ⟨cq, kq, qa, qb, qc⟩ := isOf hZ eT E
  obtain ⟨v, _, ⟨T', L', k', n'⟩, -, X', ⟨L, hQ, hl', hk', hn'⟩, st⟩ := X.virtualBack hx (y := y) (z := y) hown (mvT hZ w1) (mvT hZ w5) (notFace_of_selects (args := #[]) (mvT hZ w6)) (mvT hZ w6) (mvT hZ w2) hy (backOf (W := W) hM hZ w4 w3 hf hl) qa qc hg hsize (Steps.refl _) hlen hstack hW hd (fun _ _ => ⟨rfl, eT, hc, hs⟩)
  dsimp only [Pt.U, Pt.locs, Pt.cells, Pt.slots] at X' hl' hk' hn' st hQ
  subst hl' hk' hn'
  exact ⟨v, T', L, X', hQ, fun t k => st.trans k⟩
theorem privQ (X : Stand p l e R s m args below meth c T locs cells slots) (hx : p.tables.exec = Jvm.exec) (hZ : Z.Warmed39 s.vm) {own : String} {index : Nat} {y : MethodName} {bytes : ByteArray} {maxL : Nat} {ret : Option FieldType} (hown : s.vm.findClass own = some m.cls)
    (w1 : (Cond.methodLink own index y).before a0 Z = true) (w2 : (Cond.instanceMethod y).before a0 Z = true) (w3 : (Cond.initialized y.cls).before a0 Z = true) (w4 : (Cond.code y bytes maxL ret).before a0 Z = true) (w5 : (Cond.privateMethod y).before a0 Z = true) (w6 : (Cond.selects y.cls y y).before a0 Z = true) (hy : y.cls ≠ "java/lang/invoke/MethodHandle" ∧ y.cls ≠ "java/lang/invoke/VarHandle")
    {rm : Room} {a : Addr} {C : String} (E : Exa Z h a C) {argsL rest : List Value} {Q : Option Value → Heap → List Loc → Prop} (hM : Meets1 l y bytes maxL ret rm Z (.ref a :: argsL).toArray h Q) {W : Nat} (hf : rm.frames + 1 ≤ R.frames) (hl : W + (maxL + 11) + rm.locals ≤ R.locals) (eT : T.heap = h)
    {g : JFrame} (hg : g.method = m) (hsize : g.locals.size = c.maxLocals) (hlen : ∀ sig, parseMethodDescriptor y.desc = some sig → argsL.length = sig.parameters.length) (hstack : g.stack = argsL.reverse ++ .ref a :: rest) (hW : 2 * g.monitorRoom + (rest.map fun v => v.category).sum ≤ W) (hd : decode c.code g.pc = .ok (.invokevirtual index, 3)) (hc : cells + rm.cells ≤ R.cells) (hs : slots + rm.slots ≤ R.slots) :
    ∃ v T' L, Stand p l e R s m args below meth c T' (locs ++ L) (cells + rm.cells) (slots + rm.slots) ∧ Q v T'.heap L ∧ ∀ target, Steps p.tables e below (T'.setTop { g with pc := g.pc + 3, stack := v.toList ++ rest }) target → Steps p.tables e below (T.setTop g) target := by
  obtain ⟨cq, q1, q2⟩ := E.cell
  obtain ⟨v, _, ⟨T', L', k', n'⟩, -, X', ⟨L, hQ, hl', hk', hn'⟩, st⟩ := X.privateBack hx (y := y) hown (mvT hZ w1) (mvT hZ w2) (mvT hZ w6) (Cond.privateMethod_at (mvP hZ w5 (args := #[]))) (mvT hZ w4) hy (backOf (W := W) hM hZ w4 w3 hf hl) hg hsize (Steps.refl _) (a := a) (by rw [eT]; exact q1) q2 hlen hstack hW hd (fun _ _ => ⟨rfl, eT, hc, hs⟩)
  dsimp only [Pt.U, Pt.locs, Pt.cells, Pt.slots] at X' hl' hk' hn' st hQ
  subst hl' hk' hn'
  exact ⟨v, T', L, X', hQ, fun t k => st.trans k⟩
end Calls
section Bytes
variable {Z : State} {h h' : Heap} {a b : Addr} {n : Nat} {f : Nat → Value} {p : Program} {l : Launch} {e : Env} {R : Room} {s : State} {m : MethodId} {args : Array Value} {below : List Frame} {meth : Method} {c : Code} {T : State} {locs : List Loc} {cells slots : Nat} {rest : List Value} {g : JFrame} {a0 : Array Value}
/-- a byte[] made: its class by name besides -/
theorem newPB (X : Stand p l e R s m args below meth c T locs cells slots) (hx : p.tables.exec = Jvm.exec) (hZ : Z.Warmed39 s.vm) (w : (Cond.arrayClass .byte).before a0 Z = true) (eT : T.heap = h) (hg : g.method = m) (hd : decode c.code g.pc = .ok (.newarray .byte, 2)) {z : Int32} (hs : g.stack = .int z :: rest)
    (hn : ¬ z < 0) {cap : Nat} (hcap : z.toNatClampNeg ≤ cap) (hb : cap * 8 ≤ 536870912) (hc : cells + 1 ≤ R.cells) (hl : slots + cap ≤ R.slots) :
    ∃ T' h' cA, Stand p l e R s m args below meth c T' locs (cells + 1) (slots + cap) ∧ T'.heap = h' ∧ Ext h h' ∧ Arr Z h' h.size (newA cA .byte z) .byte ∧ Exa Z h' h.size "[B" ∧
      ∀ target, Steps p.tables e below (T'.setTop { g with pc := g.pc + 2, stack := .ref h.size :: rest }) target → Steps p.tables e below (T.setTop g) target := by
  obtain ⟨cA, kA, comp, q1, q2, q3, X', st⟩ := X.newarrayPrim (atype := .byte) hx (mvA hZ w) hg hd hs hn (by show z.toNatClampNeg * 1 ≤ _; omega) hc (by omega)
  have q1' : Z.vm.findClass "[B" = some cA := by rw [← hZ.alike.findClass]; exact q1
  obtain ⟨kZ, z1, -⟩ := Vm.findClass_spec q1'
  obtain ⟨k', z2, z3⟩ := hZ.alike.2.2 _ _ z1
  cases q2.symm.trans z2
  subst eT
  have A : Arr Z (T.heap.push (newA cA .byte z)) T.heap.size (newA cA .byte z) .byte := ⟨by simp, ⟨by simp [newA], kZ, z1, comp, by rw [z3] at q3; exact q3⟩, by simp [newA]⟩
  refine ⟨_, T.heap.push (newA cA .byte z), cA, X'.more (Nat.le_refl _) (by omega), rfl, ⟨by simp, fun x cl hx => ?_⟩, A, exa_arr A q1' rfl, st⟩
  exact (Array.getElem?_push_lt (Array.getElem?_eq_some_iff.mp hx).1).trans ((Array.getElem?_eq_getElem _).symm.trans hx)
/-- a byte[]'s clone -/
theorem clB (X : Stand p l e R s m args below meth c T locs cells slots) (hx : p.tables.exec = Jvm.exec) (hZ : Z.Warmed39 s.vm) {own : String} {index : Nat} (hown : s.vm.findClass own = some m.cls)
    (w1 : (Cond.methodLink own index ⟨"[B", "clone", "()Ljava/lang/Object;"⟩).before a0 Z = true) (w2 : (Cond.sameMethod "[B" "java/lang/Object" "clone" "()Ljava/lang/Object;").before a0 Z = true) (w3 : (Cond.native ⟨"java/lang/Object", "clone", "()Ljava/lang/Object;"⟩).before a0 Z = true)
    (w4 : (Cond.instanceMethod ⟨"java/lang/Object", "clone", "()Ljava/lang/Object;"⟩).before a0 Z = true) (w5 : (Cond.selects "[B" ⟨"[B", "clone", "()Ljava/lang/Object;"⟩ ⟨"java/lang/Object", "clone", "()Ljava/lang/Object;"⟩).before a0 Z = true) (w6 : (Cond.castable "[B" "java/lang/Cloneable").before a0 Z = true)
    (eT : T.heap = h) (F : Ara Z h a .byte n f) (E : Exa Z h a "[B") (hfit : ∀ i, i < n → fits .byte (f i) = true) (hg : g.method = m) (hsize : g.locals.size = c.maxLocals) (hs : g.stack = .ref a :: rest) (hd : decode c.code g.pc = .ok (.invokevirtual index, 3))
    (hf : 1 ≤ R.frames) {W cap : Nat} (hW : 2 * g.monitorRoom + (rest.map fun v => v.category).sum ≤ W) (hl : W + 14 ≤ R.locals) (hcap : n ≤ cap) (hc : cells + 1 ≤ R.cells) (hsl : slots + cap ≤ R.slots) :
    ∃ T' h', Stand p l e R s m args below meth c T' locs (cells + 1) (slots + cap) ∧ T'.heap = h' ∧ Ext h h' ∧ Ara Z h' h.size .byte n f ∧ Exa Z h' h.size "[B" ∧
      ∀ target, Steps p.tables e below (T'.setTop { g with pc := g.pc + 3, stack := .ref h.size :: rest }) target → Steps p.tables e below (T.setTop g) target := by
  obtain ⟨cl, A, r1, r2, r3⟩ := F
  obtain ⟨T', h', X', e', E', A', Q', st⟩ := cloneA X hx hZ hown w1 w2 w3 w4 w5 w6 eT A E (fitC_of A (fun i hi v hv => by rw [r1] at hi; rw [r3 i hi] at hv; cases hv; exact hfit i hi)) hg hsize hs hd hf hW hl (cap := cap) (by omega) hc hsl
  exact ⟨T', h', X', e', E', ⟨_, A', r1, r2, r3⟩, Q', st⟩
end Bytes

def bf (x0 x1 x2 x3 : Int32) : Nat → Value
  | 0 => .int (x0.toInt8.toInt32) | 1 => .int (x1.toInt8.toInt32) | 2 => .int (x2.toInt8.toInt32) | _ => .int (x3.toInt8.toInt32)
theorem own_fit (x0 x1 x2 x3 : Int32) (i : Nat) : fits .byte (bf x0 x1 x2 x3 i) = true := by
  match i with
  | 0 => exact fits_nar_byte _
  | 1 => exact fits_nar_byte _
  | 2 => exact fits_nar_byte _
  | n + 3 => exact fits_nar_byte _
theorem own_b (y : Int32) : y.toInt8.toInt32 &&& (255 : Int32) = y &&& (255 : Int32) := by
  apply Int32.toInt_inj.mp
  rw [c_mask _ 255 8 (by decide) (by decide), c_mask _ 255 8 (by decide) (by decide)]
  have := (c_i2b y).1
  omega
theorem ef_rm1_0 (m : MethodId) (u1 : Int32) (u2 : Int32) (u3 : Int32) (u4 : Int32) : entryFrame m #[(.int (0 : Int32)), (.int u1), (.int u2), (.int u3), (.int u4)] 5 = mkF m 0 #[.val (.int (0 : Int32)), .val (.int u1), .val (.int u2), .val (.int u3), .val (.int u4)] [] := by first | (simp [entryFrame, mkF, argsToLocals, Value.category]; done) | rfl
theorem pn_0 : plainName "com/example/cardbench/cardbench/FrameOfPinLaw" = true := by first | (simp [plainName, overriddenIn]; done) | decide +kernel
def Q_rm1_0 (Z : State) (u1 : Int32) (u2 : Int32) (u3 : Int32) (u4 : Int32)  (h0 : Heap) (n0 : Nat) (v : Option Value) (h : Heap) (L : List Loc) : Prop := ∃ b, v = some (.ref b) ∧ Fr n0 L ∧ Keep h0 h [] ∧ h0.size ≤ b ∧ Exa Z h b "[B" ∧ Ara Z h b .byte 0 (bf u1 u2 u3 u4)
theorem d1_0 : decode method_2_code 0 = .ok (.iload_n 0, 1) := by decide +kernel
theorem d1_1 : decode method_2_code 1 = .ok (.ifCond .ne 7, 3) := by decide +kernel
theorem d1_4 : decode method_2_code 4 = .ok (.iconst 0, 1) := by decide +kernel
theorem d1_5 : decode method_2_code 5 = .ok (.newarray .byte, 2) := by decide +kernel
theorem d1_7 : decode method_2_code 7 = .ok (.areturn, 1) := by decide +kernel
set_option maxRecDepth 65536 in
set_option maxHeartbeats 40000000 in
theorem rm1_0 (l : Launch) (Z : State) (a0 : Array Value) (hw : ∀ d ∈ tables_1, d.before a0 Z = true) (ws : List Jvm.Cond) (u1 : Int32) (u2 : Int32) (u3 : Int32) (u4 : Int32)  (h0 : Heap) (n0 : Nat) (Z0 : n0 ≤ h0.size)  :
    MetFree l (⟨"com/example/cardbench/cardbench/FrameOfPinLaw", "build", "(IIIII)[B"⟩ : MethodName) (head1 (Jvm.Cond.code (⟨"com/example/cardbench/cardbench/FrameOfPinLaw", "build", "(IIIII)[B"⟩ : MethodName) method_2_code 5 (some (.array .byte)) :: ws) ({ frames := 0, cells := 1, slots := 4, locals := 0 } : Room)) (fun a U => a = #[(.int (0 : Int32)), (.int u1), (.int u2), (.int u3), (.int u4)] ∧ Z.Warmed39 U.vm ∧ U.heap = h0) (fun _ _ _ _ _ => True) (fun _ U o U' => ∃ v L, o = .returned v ∧ (Q_rm1_0 Z u1 u2 u3 u4 h0 n0) v U'.heap L ∧ FrameEnd U o U' L ({ frames := 0, cells := 1, slots := 4, locals := 0 } : Room).cells ({ frames := 0, cells := 1, slots := 4, locals := 0 } : Room).slots) := by
  refine MetFree.of_bodySF (plainFor_of_name pn_0) hisR ?_
  intro p e s m args below meth c s₁ Bd hml0 hP hK
  obtain ⟨rfl, hZ, hh⟩ := hP
  have hx := Bd.exec
  have hby := Bd.bytes
  have hml : c.maxLocals = 5 := hml0
  have hown : s.vm.findClass "com/example/cardbench/cardbench/FrameOfPinLaw" = some m.cls := findClass_of_methodNamed Bd.named
  have hnm := (name_of_methodNamed Bd.named Bd.method).1
  have X0 : Stand p l e ({ frames := 0, cells := 1, slots := 4, locals := 0 } : Room) s m #[(.int (0 : Int32)), (.int u1), (.int u2), (.int u3), (.int u4)] below meth c s₁ [] 0 0 := Stand.of_body Bd
  have e0 : s₁.heap = h0 := by rw [← hh, Bd.state]; rfl
  have N0 := Fr.nil n0
  show OFin p e below (ORet (Q_rm1_0 Z u1 u2 u3 u4 h0 n0) s ({ frames := 0, cells := 1, slots := 4, locals := 0 } : Room).cells ({ frames := 0, cells := 1, slots := 4, locals := 0 } : Room).slots) (s₁.setTop (entryFrame m #[(.int (0 : Int32)), (.int u1), (.int u2), (.int u3), (.int u4)] 5))
  refine OFin.go (fun t k => castTop (ef_rm1_0 m u1 u2 u3 u4) k) ?_
  have K0 := Keep.refl h0 []
  show OFin p e below (ORet (Q_rm1_0 Z u1 u2 u3 u4 h0 n0) s ({ frames := 0, cells := 1, slots := 4, locals := 0 } : Room).cells ({ frames := 0, cells := 1, slots := 4, locals := 0 } : Room).slots) (s₁.setTop (mkF m 0 #[.val (.int (0 : Int32)), .val (.int u1), .val (.int u2), .val (.int u3), .val (.int u4)] []))
  have S1 : ∀ t, Steps p.tables e below (s₁.setTop (mkF m 1 #[.val (.int (0 : Int32)), .val (.int u1), .val (.int u2), .val (.int u3), .val (.int u4)] [(.int (0 : Int32))])) t → Steps p.tables e below (s₁.setTop (mkF m 0 #[.val (.int (0 : Int32)), .val (.int u1), .val (.int u2), .val (.int u3), .val (.int u4)] [])) t := by
    intro t k
    show Steps p.tables e below (s₁.setTop (mkF m 0 #[.val (.int (0 : Int32)), .val (.int u1), .val (.int u2), .val (.int u3), .val (.int u4)] [])) t
    refine XS.iloadN X0.here hx rfl (hb hby d1_0) rfl ?_
    exact k
  refine OFin.go S1 ?_
  have S2 : ∀ t, Steps p.tables e below (s₁.setTop (mkF m 4 #[.val (.int (0 : Int32)), .val (.int u1), .val (.int u2), .val (.int u3), .val (.int u4)] [])) t → Steps p.tables e below (s₁.setTop (mkF m 1 #[.val (.int (0 : Int32)), .val (.int u1), .val (.int u2), .val (.int u3), .val (.int u4)] [(.int (0 : Int32))])) t := by
    intro t k
    show Steps p.tables e below (s₁.setTop (mkF m 1 #[.val (.int (0 : Int32)), .val (.int u1), .val (.int u2), .val (.int u3), .val (.int u4)] [(.int (0 : Int32))])) t
    refine XS.ifNo X0.here hx rfl (hb hby d1_1) rfl ((if0 _ _).trans (teq (by decide)).2) ?_
    exact k
  refine OFin.go S2 ?_
  have S3 : ∀ t, Steps p.tables e below (s₁.setTop (mkF m 5 #[.val (.int (0 : Int32)), .val (.int u1), .val (.int u2), .val (.int u3), .val (.int u4)] [(.int (0 : Int32))])) t → Steps p.tables e below (s₁.setTop (mkF m 4 #[.val (.int (0 : Int32)), .val (.int u1), .val (.int u2), .val (.int u3), .val (.int u4)] [])) t := by
    intro t k
    show Steps p.tables e below (s₁.setTop (mkF m 4 #[.val (.int (0 : Int32)), .val (.int u1), .val (.int u2), .val (.int u3), .val (.int u4)] [])) t
    refine XS.iconst X0.here hx rfl (hb hby d1_4) ?_
    exact k
  refine OFin.go S3 ?_
  obtain ⟨T4, h4, k4, X4, e4, E4, A4, Q4, st4⟩ := newPB X0 hx hZ (hw _ (List.mem_of_getElem? (i := 5) rfl)) e0 (g := (mkF m 5 #[.val (.int (0 : Int32)), .val (.int u1), .val (.int u2), .val (.int u3), .val (.int u4)] [(.int (0 : Int32))])) rfl (hb hby d1_5) rfl (by decide) (cap := 0) (by decide) (by decide) (Nat.le_of_ble_eq_true rfl) (Nat.le_of_ble_eq_true rfl)
  obtain ⟨b4, g4⟩ : ∃ z, z = h0.size := ⟨_, rfl⟩
  rw [← g4] at A4 Q4 st4
  have ge4 : n0 ≤ b4 := Nat.le_trans Z0 (Nat.le_of_eq g4.symm)
  have Z4 : n0 ≤ h4.size := Nat.le_trans Z0 E4.1
  have sz4 : h0.size ≤ b4 := Nat.le_trans K0.1 (Nat.le_of_eq g4.symm)
  have K4 := Keep.ext K0 E4
  have V4 : Ara Z h4 b4 .byte 0 (fun _ => defaultValue .byte) := Ara.new A4 rfl
  refine OFin.go st4 ?_
  show OFin p e below _ (T4.setTop (mkF m 7 #[.val (.int (0 : Int32)), .val (.int u1), .val (.int u2), .val (.int u3), .val (.int u4)] [(.ref b4)]))
  exact finA X4 hx Bd.notSynchronized rfl Bd.returns rfl (hb hby d1_7) (by decide) (by decide) (by rw [e4]; exact ⟨b4, rfl, N0, K4, sz4, Q4, V4.congr (fun i hi => by omega)⟩)
theorem ef_rm1_1 (m : MethodId) (u1 : Int32) (u2 : Int32) (u3 : Int32) (u4 : Int32) : entryFrame m #[(.int (1 : Int32)), (.int u1), (.int u2), (.int u3), (.int u4)] 5 = mkF m 0 #[.val (.int (1 : Int32)), .val (.int u1), .val (.int u2), .val (.int u3), .val (.int u4)] [] := by first | (simp [entryFrame, mkF, argsToLocals, Value.category]; done) | rfl
def Q_rm1_1 (Z : State) (u1 : Int32) (u2 : Int32) (u3 : Int32) (u4 : Int32)  (h0 : Heap) (n0 : Nat) (v : Option Value) (h : Heap) (L : List Loc) : Prop := ∃ b, v = some (.ref b) ∧ Fr n0 L ∧ Keep h0 h [] ∧ h0.size ≤ b ∧ Exa Z h b "[B" ∧ Ara Z h b .byte 1 (bf u1 u2 u3 u4)
theorem d1_8 : decode method_2_code 8 = .ok (.iload_n 0, 1) := by decide +kernel
theorem d1_9 : decode method_2_code 9 = .ok (.iconst 1, 1) := by decide +kernel
theorem d1_10 : decode method_2_code 10 = .ok (.if_icmp .ne 12, 3) := by decide +kernel
theorem d1_13 : decode method_2_code 13 = .ok (.iconst 1, 1) := by decide +kernel
theorem d1_14 : decode method_2_code 14 = .ok (.newarray .byte, 2) := by decide +kernel
theorem d1_16 : decode method_2_code 16 = .ok (.dup, 1) := by decide +kernel
theorem d1_17 : decode method_2_code 17 = .ok (.iconst 0, 1) := by decide +kernel
theorem d1_18 : decode method_2_code 18 = .ok (.iload_n 1, 1) := by decide +kernel
theorem d1_19 : decode method_2_code 19 = .ok (.i2b, 1) := by decide +kernel
theorem d1_20 : decode method_2_code 20 = .ok (.bastore, 1) := by decide +kernel
theorem d1_21 : decode method_2_code 21 = .ok (.areturn, 1) := by decide +kernel
set_option maxRecDepth 65536 in
set_option maxHeartbeats 40000000 in
theorem rm1_1 (l : Launch) (Z : State) (a0 : Array Value) (hw : ∀ d ∈ tables_1, d.before a0 Z = true) (ws : List Jvm.Cond) (u1 : Int32) (u2 : Int32) (u3 : Int32) (u4 : Int32)  (h0 : Heap) (n0 : Nat) (Z0 : n0 ≤ h0.size)  :
    MetFree l (⟨"com/example/cardbench/cardbench/FrameOfPinLaw", "build", "(IIIII)[B"⟩ : MethodName) (head1 (Jvm.Cond.code (⟨"com/example/cardbench/cardbench/FrameOfPinLaw", "build", "(IIIII)[B"⟩ : MethodName) method_2_code 5 (some (.array .byte)) :: ws) ({ frames := 0, cells := 1, slots := 4, locals := 0 } : Room)) (fun a U => a = #[(.int (1 : Int32)), (.int u1), (.int u2), (.int u3), (.int u4)] ∧ Z.Warmed39 U.vm ∧ U.heap = h0) (fun _ _ _ _ _ => True) (fun _ U o U' => ∃ v L, o = .returned v ∧ (Q_rm1_1 Z u1 u2 u3 u4 h0 n0) v U'.heap L ∧ FrameEnd U o U' L ({ frames := 0, cells := 1, slots := 4, locals := 0 } : Room).cells ({ frames := 0, cells := 1, slots := 4, locals := 0 } : Room).slots) := by
  refine MetFree.of_bodySF (plainFor_of_name pn_0) hisR ?_
  intro p e s m args below meth c s₁ Bd hml0 hP hK
  obtain ⟨rfl, hZ, hh⟩ := hP
  have hx := Bd.exec
  have hby := Bd.bytes
  have hml : c.maxLocals = 5 := hml0
  have hown : s.vm.findClass "com/example/cardbench/cardbench/FrameOfPinLaw" = some m.cls := findClass_of_methodNamed Bd.named
  have hnm := (name_of_methodNamed Bd.named Bd.method).1
  have X0 : Stand p l e ({ frames := 0, cells := 1, slots := 4, locals := 0 } : Room) s m #[(.int (1 : Int32)), (.int u1), (.int u2), (.int u3), (.int u4)] below meth c s₁ [] 0 0 := Stand.of_body Bd
  have e0 : s₁.heap = h0 := by rw [← hh, Bd.state]; rfl
  have N0 := Fr.nil n0
  show OFin p e below (ORet (Q_rm1_1 Z u1 u2 u3 u4 h0 n0) s ({ frames := 0, cells := 1, slots := 4, locals := 0 } : Room).cells ({ frames := 0, cells := 1, slots := 4, locals := 0 } : Room).slots) (s₁.setTop (entryFrame m #[(.int (1 : Int32)), (.int u1), (.int u2), (.int u3), (.int u4)] 5))
  refine OFin.go (fun t k => castTop (ef_rm1_1 m u1 u2 u3 u4) k) ?_
  have K0 := Keep.refl h0 []
  show OFin p e below (ORet (Q_rm1_1 Z u1 u2 u3 u4 h0 n0) s ({ frames := 0, cells := 1, slots := 4, locals := 0 } : Room).cells ({ frames := 0, cells := 1, slots := 4, locals := 0 } : Room).slots) (s₁.setTop (mkF m 0 #[.val (.int (1 : Int32)), .val (.int u1), .val (.int u2), .val (.int u3), .val (.int u4)] []))
  have S1 : ∀ t, Steps p.tables e below (s₁.setTop (mkF m 1 #[.val (.int (1 : Int32)), .val (.int u1), .val (.int u2), .val (.int u3), .val (.int u4)] [(.int (1 : Int32))])) t → Steps p.tables e below (s₁.setTop (mkF m 0 #[.val (.int (1 : Int32)), .val (.int u1), .val (.int u2), .val (.int u3), .val (.int u4)] [])) t := by
    intro t k
    show Steps p.tables e below (s₁.setTop (mkF m 0 #[.val (.int (1 : Int32)), .val (.int u1), .val (.int u2), .val (.int u3), .val (.int u4)] [])) t
    refine XS.iloadN X0.here hx rfl (hb hby d1_0) rfl ?_
    exact k
  refine OFin.go S1 ?_
  have S2 : ∀ t, Steps p.tables e below (s₁.setTop (mkF m 8 #[.val (.int (1 : Int32)), .val (.int u1), .val (.int u2), .val (.int u3), .val (.int u4)] [])) t → Steps p.tables e below (s₁.setTop (mkF m 1 #[.val (.int (1 : Int32)), .val (.int u1), .val (.int u2), .val (.int u3), .val (.int u4)] [(.int (1 : Int32))])) t := by
    intro t k
    show Steps p.tables e below (s₁.setTop (mkF m 1 #[.val (.int (1 : Int32)), .val (.int u1), .val (.int u2), .val (.int u3), .val (.int u4)] [(.int (1 : Int32))])) t
    refine XS.ifYes X0.here hx rfl (pc0 := 1) (pc' := 8) rfl (hb hby d1_1) rfl ((if0 _ _).trans (feq (by decide)).2) (by decide) (by decide) ?_
    exact k
  refine OFin.go S2 ?_
  have S3 : ∀ t, Steps p.tables e below (s₁.setTop (mkF m 10 #[.val (.int (1 : Int32)), .val (.int u1), .val (.int u2), .val (.int u3), .val (.int u4)] [(.int (1 : Int32)), (.int (1 : Int32))])) t → Steps p.tables e below (s₁.setTop (mkF m 8 #[.val (.int (1 : Int32)), .val (.int u1), .val (.int u2), .val (.int u3), .val (.int u4)] [])) t := by
    intro t k
    show Steps p.tables e below (s₁.setTop (mkF m 8 #[.val (.int (1 : Int32)), .val (.int u1), .val (.int u2), .val (.int u3), .val (.int u4)] [])) t
    refine XS.iloadN X0.here hx rfl (hb hby d1_8) rfl ?_
    show Steps p.tables e below (s₁.setTop (mkF m 9 #[.val (.int (1 : Int32)), .val (.int u1), .val (.int u2), .val (.int u3), .val (.int u4)] [(.int (1 : Int32))])) t
    refine XS.iconst X0.here hx rfl (hb hby d1_9) ?_
    exact k
  refine OFin.go S3 ?_
  have S4 : ∀ t, Steps p.tables e below (s₁.setTop (mkF m 13 #[.val (.int (1 : Int32)), .val (.int u1), .val (.int u2), .val (.int u3), .val (.int u4)] [])) t → Steps p.tables e below (s₁.setTop (mkF m 10 #[.val (.int (1 : Int32)), .val (.int u1), .val (.int u2), .val (.int u3), .val (.int u4)] [(.int (1 : Int32)), (.int (1 : Int32))])) t := by
    intro t k
    show Steps p.tables e below (s₁.setTop (mkF m 10 #[.val (.int (1 : Int32)), .val (.int u1), .val (.int u2), .val (.int u3), .val (.int u4)] [(.int (1 : Int32)), (.int (1 : Int32))])) t
    refine XS.icmpNo X0.here hx rfl (hb hby d1_10) rfl (teq (by decide)).2 ?_
    exact k
  refine OFin.go S4 ?_
  have S5 : ∀ t, Steps p.tables e below (s₁.setTop (mkF m 14 #[.val (.int (1 : Int32)), .val (.int u1), .val (.int u2), .val (.int u3), .val (.int u4)] [(.int (1 : Int32))])) t → Steps p.tables e below (s₁.setTop (mkF m 13 #[.val (.int (1 : Int32)), .val (.int u1), .val (.int u2), .val (.int u3), .val (.int u4)] [])) t := by
    intro t k
    show Steps p.tables e below (s₁.setTop (mkF m 13 #[.val (.int (1 : Int32)), .val (.int u1), .val (.int u2), .val (.int u3), .val (.int u4)] [])) t
    refine XS.iconst X0.here hx rfl (hb hby d1_13) ?_
    exact k
  refine OFin.go S5 ?_
  obtain ⟨T6, h6, k6, X6, e6, E6, A6, Q6, st6⟩ := newPB X0 hx hZ (hw _ (List.mem_of_getElem? (i := 5) rfl)) e0 (g := (mkF m 14 #[.val (.int (1 : Int32)), .val (.int u1), .val (.int u2), .val (.int u3), .val (.int u4)] [(.int (1 : Int32))])) rfl (hb hby d1_14) rfl (by decide) (cap := 1) (by decide) (by decide) (Nat.le_of_ble_eq_true rfl) (Nat.le_of_ble_eq_true rfl)
  obtain ⟨b6, g6⟩ : ∃ z, z = h0.size := ⟨_, rfl⟩
  rw [← g6] at A6 Q6 st6
  have ge6 : n0 ≤ b6 := Nat.le_trans Z0 (Nat.le_of_eq g6.symm)
  have Z6 : n0 ≤ h6.size := Nat.le_trans Z0 E6.1
  have sz6 : h0.size ≤ b6 := Nat.le_trans K0.1 (Nat.le_of_eq g6.symm)
  have K6 := Keep.ext K0 E6
  have V6 : Ara Z h6 b6 .byte 1 (fun _ => defaultValue .byte) := Ara.new A6 rfl
  refine OFin.go st6 ?_
  show OFin p e below _ (T6.setTop (mkF m 16 #[.val (.int (1 : Int32)), .val (.int u1), .val (.int u2), .val (.int u3), .val (.int u4)] [(.ref b6)]))
  have S7 : ∀ t, Steps p.tables e below (T6.setTop (mkF m 20 #[.val (.int (1 : Int32)), .val (.int u1), .val (.int u2), .val (.int u3), .val (.int u4)] [(.int (u1.toInt8.toInt32)), (.int (0 : Int32)), (.ref b6), (.ref b6)])) t → Steps p.tables e below (T6.setTop (mkF m 16 #[.val (.int (1 : Int32)), .val (.int u1), .val (.int u2), .val (.int u3), .val (.int u4)] [(.ref b6)])) t := by
    intro t k
    show Steps p.tables e below (T6.setTop (mkF m 16 #[.val (.int (1 : Int32)), .val (.int u1), .val (.int u2), .val (.int u3), .val (.int u4)] [(.ref b6)])) t
    refine XS.dup X6.here hx rfl (hb hby d1_16) rfl rfl ?_
    show Steps p.tables e below (T6.setTop (mkF m 17 #[.val (.int (1 : Int32)), .val (.int u1), .val (.int u2), .val (.int u3), .val (.int u4)] [(.ref b6), (.ref b6)])) t
    refine XS.iconst X6.here hx rfl (hb hby d1_17) ?_
    show Steps p.tables e below (T6.setTop (mkF m 18 #[.val (.int (1 : Int32)), .val (.int u1), .val (.int u2), .val (.int u3), .val (.int u4)] [(.int (0 : Int32)), (.ref b6), (.ref b6)])) t
    refine XS.iloadN X6.here hx rfl (hb hby d1_18) rfl ?_
    show Steps p.tables e below (T6.setTop (mkF m 19 #[.val (.int (1 : Int32)), .val (.int u1), .val (.int u2), .val (.int u3), .val (.int u4)] [(.int u1), (.int (0 : Int32)), (.ref b6), (.ref b6)])) t
    refine XS.i2b X6.here hx rfl (hb hby d1_19) rfl ?_
    exact k
  refine OFin.go S7 ?_
  obtain ⟨T8, h8, X8, e8, W8, st8⟩ := wrB X6 hx hZ e6 V6 (i := 0) (by decide) rfl (by decide) (y' := (u1.toInt8.toInt32)) (nar_b _) (g := (mkF m 20 #[.val (.int (1 : Int32)), .val (.int u1), .val (.int u2), .val (.int u3), .val (.int u4)] [(.int (u1.toInt8.toInt32)), (.int (0 : Int32)), (.ref b6), (.ref b6)])) rfl rfl (hb hby d1_20)
  have V8 := V6.set W8
  have N8 := Fr.snoc X8 N0 ge6
  have Z8 : n0 ≤ h8.size := Nat.le_trans Z6 (wr_le W8)
  have K8 := Keep.wr K6 W8 (Or.inr sz6)
  refine OFin.go st8 ?_
  show OFin p e below _ (T8.setTop (mkF m 21 #[.val (.int (1 : Int32)), .val (.int u1), .val (.int u2), .val (.int u3), .val (.int u4)] [(.ref b6)]))
  have F9 := Q6.wr W8
  exact finA X8 hx Bd.notSynchronized rfl Bd.returns rfl (hb hby d1_21) (by decide) (by decide) (by rw [e8]; exact ⟨b6, rfl, N8, K8, sz6, F9, V8.congr (fun i hi => by match i, hi with | 0, _ => rfl)⟩)
theorem ef_rm1_2 (m : MethodId) (u1 : Int32) (u2 : Int32) (u3 : Int32) (u4 : Int32) : entryFrame m #[(.int (2 : Int32)), (.int u1), (.int u2), (.int u3), (.int u4)] 5 = mkF m 0 #[.val (.int (2 : Int32)), .val (.int u1), .val (.int u2), .val (.int u3), .val (.int u4)] [] := by first | (simp [entryFrame, mkF, argsToLocals, Value.category]; done) | rfl
def Q_rm1_2 (Z : State) (u1 : Int32) (u2 : Int32) (u3 : Int32) (u4 : Int32)  (h0 : Heap) (n0 : Nat) (v : Option Value) (h : Heap) (L : List Loc) : Prop := ∃ b, v = some (.ref b) ∧ Fr n0 L ∧ Keep h0 h [] ∧ h0.size ≤ b ∧ Exa Z h b "[B" ∧ Ara Z h b .byte 2 (bf u1 u2 u3 u4)
theorem d1_22 : decode method_2_code 22 = .ok (.iload_n 0, 1) := by decide +kernel
theorem d1_23 : decode method_2_code 23 = .ok (.iconst 2, 1) := by decide +kernel
theorem d1_24 : decode method_2_code 24 = .ok (.if_icmp .ne 17, 3) := by decide +kernel
theorem d1_27 : decode method_2_code 27 = .ok (.iconst 2, 1) := by decide +kernel
theorem d1_28 : decode method_2_code 28 = .ok (.newarray .byte, 2) := by decide +kernel
theorem d1_30 : decode method_2_code 30 = .ok (.dup, 1) := by decide +kernel
theorem d1_31 : decode method_2_code 31 = .ok (.iconst 0, 1) := by decide +kernel
theorem d1_32 : decode method_2_code 32 = .ok (.iload_n 1, 1) := by decide +kernel
theorem d1_33 : decode method_2_code 33 = .ok (.i2b, 1) := by decide +kernel
theorem d1_34 : decode method_2_code 34 = .ok (.bastore, 1) := by decide +kernel
theorem d1_35 : decode method_2_code 35 = .ok (.dup, 1) := by decide +kernel
theorem d1_36 : decode method_2_code 36 = .ok (.iconst 1, 1) := by decide +kernel
theorem d1_37 : decode method_2_code 37 = .ok (.iload_n 2, 1) := by decide +kernel
theorem d1_38 : decode method_2_code 38 = .ok (.i2b, 1) := by decide +kernel
theorem d1_39 : decode method_2_code 39 = .ok (.bastore, 1) := by decide +kernel
theorem d1_40 : decode method_2_code 40 = .ok (.areturn, 1) := by decide +kernel
set_option maxRecDepth 65536 in
set_option maxHeartbeats 40000000 in
theorem rm1_2 (l : Launch) (Z : State) (a0 : Array Value) (hw : ∀ d ∈ tables_1, d.before a0 Z = true) (ws : List Jvm.Cond) (u1 : Int32) (u2 : Int32) (u3 : Int32) (u4 : Int32)  (h0 : Heap) (n0 : Nat) (Z0 : n0 ≤ h0.size)  :
    MetFree l (⟨"com/example/cardbench/cardbench/FrameOfPinLaw", "build", "(IIIII)[B"⟩ : MethodName) (head1 (Jvm.Cond.code (⟨"com/example/cardbench/cardbench/FrameOfPinLaw", "build", "(IIIII)[B"⟩ : MethodName) method_2_code 5 (some (.array .byte)) :: ws) ({ frames := 0, cells := 1, slots := 4, locals := 0 } : Room)) (fun a U => a = #[(.int (2 : Int32)), (.int u1), (.int u2), (.int u3), (.int u4)] ∧ Z.Warmed39 U.vm ∧ U.heap = h0) (fun _ _ _ _ _ => True) (fun _ U o U' => ∃ v L, o = .returned v ∧ (Q_rm1_2 Z u1 u2 u3 u4 h0 n0) v U'.heap L ∧ FrameEnd U o U' L ({ frames := 0, cells := 1, slots := 4, locals := 0 } : Room).cells ({ frames := 0, cells := 1, slots := 4, locals := 0 } : Room).slots) := by
  refine MetFree.of_bodySF (plainFor_of_name pn_0) hisR ?_
  intro p e s m args below meth c s₁ Bd hml0 hP hK
  obtain ⟨rfl, hZ, hh⟩ := hP
  have hx := Bd.exec
  have hby := Bd.bytes
  have hml : c.maxLocals = 5 := hml0
  have hown : s.vm.findClass "com/example/cardbench/cardbench/FrameOfPinLaw" = some m.cls := findClass_of_methodNamed Bd.named
  have hnm := (name_of_methodNamed Bd.named Bd.method).1
  have X0 : Stand p l e ({ frames := 0, cells := 1, slots := 4, locals := 0 } : Room) s m #[(.int (2 : Int32)), (.int u1), (.int u2), (.int u3), (.int u4)] below meth c s₁ [] 0 0 := Stand.of_body Bd
  have e0 : s₁.heap = h0 := by rw [← hh, Bd.state]; rfl
  have N0 := Fr.nil n0
  show OFin p e below (ORet (Q_rm1_2 Z u1 u2 u3 u4 h0 n0) s ({ frames := 0, cells := 1, slots := 4, locals := 0 } : Room).cells ({ frames := 0, cells := 1, slots := 4, locals := 0 } : Room).slots) (s₁.setTop (entryFrame m #[(.int (2 : Int32)), (.int u1), (.int u2), (.int u3), (.int u4)] 5))
  refine OFin.go (fun t k => castTop (ef_rm1_2 m u1 u2 u3 u4) k) ?_
  have K0 := Keep.refl h0 []
  show OFin p e below (ORet (Q_rm1_2 Z u1 u2 u3 u4 h0 n0) s ({ frames := 0, cells := 1, slots := 4, locals := 0 } : Room).cells ({ frames := 0, cells := 1, slots := 4, locals := 0 } : Room).slots) (s₁.setTop (mkF m 0 #[.val (.int (2 : Int32)), .val (.int u1), .val (.int u2), .val (.int u3), .val (.int u4)] []))
  have S1 : ∀ t, Steps p.tables e below (s₁.setTop (mkF m 1 #[.val (.int (2 : Int32)), .val (.int u1), .val (.int u2), .val (.int u3), .val (.int u4)] [(.int (2 : Int32))])) t → Steps p.tables e below (s₁.setTop (mkF m 0 #[.val (.int (2 : Int32)), .val (.int u1), .val (.int u2), .val (.int u3), .val (.int u4)] [])) t := by
    intro t k
    show Steps p.tables e below (s₁.setTop (mkF m 0 #[.val (.int (2 : Int32)), .val (.int u1), .val (.int u2), .val (.int u3), .val (.int u4)] [])) t
    refine XS.iloadN X0.here hx rfl (hb hby d1_0) rfl ?_
    exact k
  refine OFin.go S1 ?_
  have S2 : ∀ t, Steps p.tables e below (s₁.setTop (mkF m 8 #[.val (.int (2 : Int32)), .val (.int u1), .val (.int u2), .val (.int u3), .val (.int u4)] [])) t → Steps p.tables e below (s₁.setTop (mkF m 1 #[.val (.int (2 : Int32)), .val (.int u1), .val (.int u2), .val (.int u3), .val (.int u4)] [(.int (2 : Int32))])) t := by
    intro t k
    show Steps p.tables e below (s₁.setTop (mkF m 1 #[.val (.int (2 : Int32)), .val (.int u1), .val (.int u2), .val (.int u3), .val (.int u4)] [(.int (2 : Int32))])) t
    refine XS.ifYes X0.here hx rfl (pc0 := 1) (pc' := 8) rfl (hb hby d1_1) rfl ((if0 _ _).trans (feq (by decide)).2) (by decide) (by decide) ?_
    exact k
  refine OFin.go S2 ?_
  have S3 : ∀ t, Steps p.tables e below (s₁.setTop (mkF m 10 #[.val (.int (2 : Int32)), .val (.int u1), .val (.int u2), .val (.int u3), .val (.int u4)] [(.int (1 : Int32)), (.int (2 : Int32))])) t → Steps p.tables e below (s₁.setTop (mkF m 8 #[.val (.int (2 : Int32)), .val (.int u1), .val (.int u2), .val (.int u3), .val (.int u4)] [])) t := by
    intro t k
    show Steps p.tables e below (s₁.setTop (mkF m 8 #[.val (.int (2 : Int32)), .val (.int u1), .val (.int u2), .val (.int u3), .val (.int u4)] [])) t
    refine XS.iloadN X0.here hx rfl (hb hby d1_8) rfl ?_
    show Steps p.tables e below (s₁.setTop (mkF m 9 #[.val (.int (2 : Int32)), .val (.int u1), .val (.int u2), .val (.int u3), .val (.int u4)] [(.int (2 : Int32))])) t
    refine XS.iconst X0.here hx rfl (hb hby d1_9) ?_
    exact k
  refine OFin.go S3 ?_
  have S4 : ∀ t, Steps p.tables e below (s₁.setTop (mkF m 22 #[.val (.int (2 : Int32)), .val (.int u1), .val (.int u2), .val (.int u3), .val (.int u4)] [])) t → Steps p.tables e below (s₁.setTop (mkF m 10 #[.val (.int (2 : Int32)), .val (.int u1), .val (.int u2), .val (.int u3), .val (.int u4)] [(.int (1 : Int32)), (.int (2 : Int32))])) t := by
    intro t k
    show Steps p.tables e below (s₁.setTop (mkF m 10 #[.val (.int (2 : Int32)), .val (.int u1), .val (.int u2), .val (.int u3), .val (.int u4)] [(.int (1 : Int32)), (.int (2 : Int32))])) t
    refine XS.icmpYes X0.here hx rfl (pc0 := 10) (pc' := 22) rfl (hb hby d1_10) rfl (feq (by decide)).2 (by decide) (by decide) ?_
    exact k
  refine OFin.go S4 ?_
  have S5 : ∀ t, Steps p.tables e below (s₁.setTop (mkF m 24 #[.val (.int (2 : Int32)), .val (.int u1), .val (.int u2), .val (.int u3), .val (.int u4)] [(.int (2 : Int32)), (.int (2 : Int32))])) t → Steps p.tables e below (s₁.setTop (mkF m 22 #[.val (.int (2 : Int32)), .val (.int u1), .val (.int u2), .val (.int u3), .val (.int u4)] [])) t := by
    intro t k
    show Steps p.tables e below (s₁.setTop (mkF m 22 #[.val (.int (2 : Int32)), .val (.int u1), .val (.int u2), .val (.int u3), .val (.int u4)] [])) t
    refine XS.iloadN X0.here hx rfl (hb hby d1_22) rfl ?_
    show Steps p.tables e below (s₁.setTop (mkF m 23 #[.val (.int (2 : Int32)), .val (.int u1), .val (.int u2), .val (.int u3), .val (.int u4)] [(.int (2 : Int32))])) t
    refine XS.iconst X0.here hx rfl (hb hby d1_23) ?_
    exact k
  refine OFin.go S5 ?_
  have S6 : ∀ t, Steps p.tables e below (s₁.setTop (mkF m 27 #[.val (.int (2 : Int32)), .val (.int u1), .val (.int u2), .val (.int u3), .val (.int u4)] [])) t → Steps p.tables e below (s₁.setTop (mkF m 24 #[.val (.int (2 : Int32)), .val (.int u1), .val (.int u2), .val (.int u3), .val (.int u4)] [(.int (2 : Int32)), (.int (2 : Int32))])) t := by
    intro t k
    show Steps p.tables e below (s₁.setTop (mkF m 24 #[.val (.int (2 : Int32)), .val (.int u1), .val (.int u2), .val (.int u3), .val (.int u4)] [(.int (2 : Int32)), (.int (2 : Int32))])) t
    refine XS.icmpNo X0.here hx rfl (hb hby d1_24) rfl (teq (by decide)).2 ?_
    exact k
  refine OFin.go S6 ?_
  have S7 : ∀ t, Steps p.tables e below (s₁.setTop (mkF m 28 #[.val (.int (2 : Int32)), .val (.int u1), .val (.int u2), .val (.int u3), .val (.int u4)] [(.int (2 : Int32))])) t → Steps p.tables e below (s₁.setTop (mkF m 27 #[.val (.int (2 : Int32)), .val (.int u1), .val (.int u2), .val (.int u3), .val (.int u4)] [])) t := by
    intro t k
    show Steps p.tables e below (s₁.setTop (mkF m 27 #[.val (.int (2 : Int32)), .val (.int u1), .val (.int u2), .val (.int u3), .val (.int u4)] [])) t
    refine XS.iconst X0.here hx rfl (hb hby d1_27) ?_
    exact k
  refine OFin.go S7 ?_
  obtain ⟨T8, h8, k8, X8, e8, E8, A8, Q8, st8⟩ := newPB X0 hx hZ (hw _ (List.mem_of_getElem? (i := 5) rfl)) e0 (g := (mkF m 28 #[.val (.int (2 : Int32)), .val (.int u1), .val (.int u2), .val (.int u3), .val (.int u4)] [(.int (2 : Int32))])) rfl (hb hby d1_28) rfl (by decide) (cap := 2) (by decide) (by decide) (Nat.le_of_ble_eq_true rfl) (Nat.le_of_ble_eq_true rfl)
  obtain ⟨b8, g8⟩ : ∃ z, z = h0.size := ⟨_, rfl⟩
  rw [← g8] at A8 Q8 st8
  have ge8 : n0 ≤ b8 := Nat.le_trans Z0 (Nat.le_of_eq g8.symm)
  have Z8 : n0 ≤ h8.size := Nat.le_trans Z0 E8.1
  have sz8 : h0.size ≤ b8 := Nat.le_trans K0.1 (Nat.le_of_eq g8.symm)
  have K8 := Keep.ext K0 E8
  have V8 : Ara Z h8 b8 .byte 2 (fun _ => defaultValue .byte) := Ara.new A8 rfl
  refine OFin.go st8 ?_
  show OFin p e below _ (T8.setTop (mkF m 30 #[.val (.int (2 : Int32)), .val (.int u1), .val (.int u2), .val (.int u3), .val (.int u4)] [(.ref b8)]))
  have S9 : ∀ t, Steps p.tables e below (T8.setTop (mkF m 34 #[.val (.int (2 : Int32)), .val (.int u1), .val (.int u2), .val (.int u3), .val (.int u4)] [(.int (u1.toInt8.toInt32)), (.int (0 : Int32)), (.ref b8), (.ref b8)])) t → Steps p.tables e below (T8.setTop (mkF m 30 #[.val (.int (2 : Int32)), .val (.int u1), .val (.int u2), .val (.int u3), .val (.int u4)] [(.ref b8)])) t := by
    intro t k
    show Steps p.tables e below (T8.setTop (mkF m 30 #[.val (.int (2 : Int32)), .val (.int u1), .val (.int u2), .val (.int u3), .val (.int u4)] [(.ref b8)])) t
    refine XS.dup X8.here hx rfl (hb hby d1_30) rfl rfl ?_
    show Steps p.tables e below (T8.setTop (mkF m 31 #[.val (.int (2 : Int32)), .val (.int u1), .val (.int u2), .val (.int u3), .val (.int u4)] [(.ref b8), (.ref b8)])) t
    refine XS.iconst X8.here hx rfl (hb hby d1_31) ?_
    show Steps p.tables e below (T8.setTop (mkF m 32 #[.val (.int (2 : Int32)), .val (.int u1), .val (.int u2), .val (.int u3), .val (.int u4)] [(.int (0 : Int32)), (.ref b8), (.ref b8)])) t
    refine XS.iloadN X8.here hx rfl (hb hby d1_32) rfl ?_
    show Steps p.tables e below (T8.setTop (mkF m 33 #[.val (.int (2 : Int32)), .val (.int u1), .val (.int u2), .val (.int u3), .val (.int u4)] [(.int u1), (.int (0 : Int32)), (.ref b8), (.ref b8)])) t
    refine XS.i2b X8.here hx rfl (hb hby d1_33) rfl ?_
    exact k
  refine OFin.go S9 ?_
  obtain ⟨T10, h10, X10, e10, W10, st10⟩ := wrB X8 hx hZ e8 V8 (i := 0) (by decide) rfl (by decide) (y' := (u1.toInt8.toInt32)) (nar_b _) (g := (mkF m 34 #[.val (.int (2 : Int32)), .val (.int u1), .val (.int u2), .val (.int u3), .val (.int u4)] [(.int (u1.toInt8.toInt32)), (.int (0 : Int32)), (.ref b8), (.ref b8)])) rfl rfl (hb hby d1_34)
  have V10 := V8.set W10
  have N10 := Fr.snoc X10 N0 ge8
  have Z10 : n0 ≤ h10.size := Nat.le_trans Z8 (wr_le W10)
  have K10 := Keep.wr K8 W10 (Or.inr sz8)
  refine OFin.go st10 ?_
  show OFin p e below _ (T10.setTop (mkF m 35 #[.val (.int (2 : Int32)), .val (.int u1), .val (.int u2), .val (.int u3), .val (.int u4)] [(.ref b8)]))
  have S11 : ∀ t, Steps p.tables e below (T10.setTop (mkF m 39 #[.val (.int (2 : Int32)), .val (.int u1), .val (.int u2), .val (.int u3), .val (.int u4)] [(.int (u2.toInt8.toInt32)), (.int (1 : Int32)), (.ref b8), (.ref b8)])) t → Steps p.tables e below (T10.setTop (mkF m 35 #[.val (.int (2 : Int32)), .val (.int u1), .val (.int u2), .val (.int u3), .val (.int u4)] [(.ref b8)])) t := by
    intro t k
    show Steps p.tables e below (T10.setTop (mkF m 35 #[.val (.int (2 : Int32)), .val (.int u1), .val (.int u2), .val (.int u3), .val (.int u4)] [(.ref b8)])) t
    refine XS.dup X10.here hx rfl (hb hby d1_35) rfl rfl ?_
    show Steps p.tables e below (T10.setTop (mkF m 36 #[.val (.int (2 : Int32)), .val (.int u1), .val (.int u2), .val (.int u3), .val (.int u4)] [(.ref b8), (.ref b8)])) t
    refine XS.iconst X10.here hx rfl (hb hby d1_36) ?_
    show Steps p.tables e below (T10.setTop (mkF m 37 #[.val (.int (2 : Int32)), .val (.int u1), .val (.int u2), .val (.int u3), .val (.int u4)] [(.int (1 : Int32)), (.ref b8), (.ref b8)])) t
    refine XS.iloadN X10.here hx rfl (hb hby d1_37) rfl ?_
    show Steps p.tables e below (T10.setTop (mkF m 38 #[.val (.int (2 : Int32)), .val (.int u1), .val (.int u2), .val (.int u3), .val (.int u4)] [(.int u2), (.int (1 : Int32)), (.ref b8), (.ref b8)])) t
    refine XS.i2b X10.here hx rfl (hb hby d1_38) rfl ?_
    exact k
  refine OFin.go S11 ?_
  obtain ⟨T12, h12, X12, e12, W12, st12⟩ := wrB X10 hx hZ e10 V10 (i := 1) (by decide) rfl (by decide) (y' := (u2.toInt8.toInt32)) (nar_b _) (g := (mkF m 39 #[.val (.int (2 : Int32)), .val (.int u1), .val (.int u2), .val (.int u3), .val (.int u4)] [(.int (u2.toInt8.toInt32)), (.int (1 : Int32)), (.ref b8), (.ref b8)])) rfl rfl (hb hby d1_39)
  have V12 := V10.set W12
  have N12 := Fr.snoc X12 N10 ge8
  have Z12 : n0 ≤ h12.size := Nat.le_trans Z10 (wr_le W12)
  have K12 := Keep.wr K10 W12 (Or.inr sz8)
  refine OFin.go st12 ?_
  show OFin p e below _ (T12.setTop (mkF m 40 #[.val (.int (2 : Int32)), .val (.int u1), .val (.int u2), .val (.int u3), .val (.int u4)] [(.ref b8)]))
  have F13 := Q8.wr W10
  have F14 := F13.wr W12
  exact finA X12 hx Bd.notSynchronized rfl Bd.returns rfl (hb hby d1_40) (by decide) (by decide) (by rw [e12]; exact ⟨b8, rfl, N12, K12, sz8, F14, V12.congr (fun i hi => by match i, hi with | 0, _ => rfl | 1, _ => rfl)⟩)
theorem ef_rm1_3 (m : MethodId) (u1 : Int32) (u2 : Int32) (u3 : Int32) (u4 : Int32) : entryFrame m #[(.int (3 : Int32)), (.int u1), (.int u2), (.int u3), (.int u4)] 5 = mkF m 0 #[.val (.int (3 : Int32)), .val (.int u1), .val (.int u2), .val (.int u3), .val (.int u4)] [] := by first | (simp [entryFrame, mkF, argsToLocals, Value.category]; done) | rfl
def Q_rm1_3 (Z : State) (u1 : Int32) (u2 : Int32) (u3 : Int32) (u4 : Int32)  (h0 : Heap) (n0 : Nat) (v : Option Value) (h : Heap) (L : List Loc) : Prop := ∃ b, v = some (.ref b) ∧ Fr n0 L ∧ Keep h0 h [] ∧ h0.size ≤ b ∧ Exa Z h b "[B" ∧ Ara Z h b .byte 3 (bf u1 u2 u3 u4)
theorem d1_41 : decode method_2_code 41 = .ok (.iload_n 0, 1) := by decide +kernel
theorem d1_42 : decode method_2_code 42 = .ok (.iconst 3, 1) := by decide +kernel
theorem d1_43 : decode method_2_code 43 = .ok (.if_icmp .ne 22, 3) := by decide +kernel
theorem d1_46 : decode method_2_code 46 = .ok (.iconst 3, 1) := by decide +kernel
theorem d1_47 : decode method_2_code 47 = .ok (.newarray .byte, 2) := by decide +kernel
theorem d1_49 : decode method_2_code 49 = .ok (.dup, 1) := by decide +kernel
theorem d1_50 : decode method_2_code 50 = .ok (.iconst 0, 1) := by decide +kernel
theorem d1_51 : decode method_2_code 51 = .ok (.iload_n 1, 1) := by decide +kernel
theorem d1_52 : decode method_2_code 52 = .ok (.i2b, 1) := by decide +kernel
theorem d1_53 : decode method_2_code 53 = .ok (.bastore, 1) := by decide +kernel
theorem d1_54 : decode method_2_code 54 = .ok (.dup, 1) := by decide +kernel
theorem d1_55 : decode method_2_code 55 = .ok (.iconst 1, 1) := by decide +kernel
theorem d1_56 : decode method_2_code 56 = .ok (.iload_n 2, 1) := by decide +kernel
theorem d1_57 : decode method_2_code 57 = .ok (.i2b, 1) := by decide +kernel
theorem d1_58 : decode method_2_code 58 = .ok (.bastore, 1) := by decide +kernel
theorem d1_59 : decode method_2_code 59 = .ok (.dup, 1) := by decide +kernel
theorem d1_60 : decode method_2_code 60 = .ok (.iconst 2, 1) := by decide +kernel
theorem d1_61 : decode method_2_code 61 = .ok (.iload_n 3, 1) := by decide +kernel
theorem d1_62 : decode method_2_code 62 = .ok (.i2b, 1) := by decide +kernel
theorem d1_63 : decode method_2_code 63 = .ok (.bastore, 1) := by decide +kernel
theorem d1_64 : decode method_2_code 64 = .ok (.areturn, 1) := by decide +kernel
set_option maxRecDepth 65536 in
set_option maxHeartbeats 40000000 in
theorem rm1_3 (l : Launch) (Z : State) (a0 : Array Value) (hw : ∀ d ∈ tables_1, d.before a0 Z = true) (ws : List Jvm.Cond) (u1 : Int32) (u2 : Int32) (u3 : Int32) (u4 : Int32)  (h0 : Heap) (n0 : Nat) (Z0 : n0 ≤ h0.size)  :
    MetFree l (⟨"com/example/cardbench/cardbench/FrameOfPinLaw", "build", "(IIIII)[B"⟩ : MethodName) (head1 (Jvm.Cond.code (⟨"com/example/cardbench/cardbench/FrameOfPinLaw", "build", "(IIIII)[B"⟩ : MethodName) method_2_code 5 (some (.array .byte)) :: ws) ({ frames := 0, cells := 1, slots := 4, locals := 0 } : Room)) (fun a U => a = #[(.int (3 : Int32)), (.int u1), (.int u2), (.int u3), (.int u4)] ∧ Z.Warmed39 U.vm ∧ U.heap = h0) (fun _ _ _ _ _ => True) (fun _ U o U' => ∃ v L, o = .returned v ∧ (Q_rm1_3 Z u1 u2 u3 u4 h0 n0) v U'.heap L ∧ FrameEnd U o U' L ({ frames := 0, cells := 1, slots := 4, locals := 0 } : Room).cells ({ frames := 0, cells := 1, slots := 4, locals := 0 } : Room).slots) := by
  refine MetFree.of_bodySF (plainFor_of_name pn_0) hisR ?_
  intro p e s m args below meth c s₁ Bd hml0 hP hK
  obtain ⟨rfl, hZ, hh⟩ := hP
  have hx := Bd.exec
  have hby := Bd.bytes
  have hml : c.maxLocals = 5 := hml0
  have hown : s.vm.findClass "com/example/cardbench/cardbench/FrameOfPinLaw" = some m.cls := findClass_of_methodNamed Bd.named
  have hnm := (name_of_methodNamed Bd.named Bd.method).1
  have X0 : Stand p l e ({ frames := 0, cells := 1, slots := 4, locals := 0 } : Room) s m #[(.int (3 : Int32)), (.int u1), (.int u2), (.int u3), (.int u4)] below meth c s₁ [] 0 0 := Stand.of_body Bd
  have e0 : s₁.heap = h0 := by rw [← hh, Bd.state]; rfl
  have N0 := Fr.nil n0
  show OFin p e below (ORet (Q_rm1_3 Z u1 u2 u3 u4 h0 n0) s ({ frames := 0, cells := 1, slots := 4, locals := 0 } : Room).cells ({ frames := 0, cells := 1, slots := 4, locals := 0 } : Room).slots) (s₁.setTop (entryFrame m #[(.int (3 : Int32)), (.int u1), (.int u2), (.int u3), (.int u4)] 5))
  refine OFin.go (fun t k => castTop (ef_rm1_3 m u1 u2 u3 u4) k) ?_
  have K0 := Keep.refl h0 []
  show OFin p e below (ORet (Q_rm1_3 Z u1 u2 u3 u4 h0 n0) s ({ frames := 0, cells := 1, slots := 4, locals := 0 } : Room).cells ({ frames := 0, cells := 1, slots := 4, locals := 0 } : Room).slots) (s₁.setTop (mkF m 0 #[.val (.int (3 : Int32)), .val (.int u1), .val (.int u2), .val (.int u3), .val (.int u4)] []))
  have S1 : ∀ t, Steps p.tables e below (s₁.setTop (mkF m 1 #[.val (.int (3 : Int32)), .val (.int u1), .val (.int u2), .val (.int u3), .val (.int u4)] [(.int (3 : Int32))])) t → Steps p.tables e below (s₁.setTop (mkF m 0 #[.val (.int (3 : Int32)), .val (.int u1), .val (.int u2), .val (.int u3), .val (.int u4)] [])) t := by
    intro t k
    show Steps p.tables e below (s₁.setTop (mkF m 0 #[.val (.int (3 : Int32)), .val (.int u1), .val (.int u2), .val (.int u3), .val (.int u4)] [])) t
    refine XS.iloadN X0.here hx rfl (hb hby d1_0) rfl ?_
    exact k
  refine OFin.go S1 ?_
  have S2 : ∀ t, Steps p.tables e below (s₁.setTop (mkF m 8 #[.val (.int (3 : Int32)), .val (.int u1), .val (.int u2), .val (.int u3), .val (.int u4)] [])) t → Steps p.tables e below (s₁.setTop (mkF m 1 #[.val (.int (3 : Int32)), .val (.int u1), .val (.int u2), .val (.int u3), .val (.int u4)] [(.int (3 : Int32))])) t := by
    intro t k
    show Steps p.tables e below (s₁.setTop (mkF m 1 #[.val (.int (3 : Int32)), .val (.int u1), .val (.int u2), .val (.int u3), .val (.int u4)] [(.int (3 : Int32))])) t
    refine XS.ifYes X0.here hx rfl (pc0 := 1) (pc' := 8) rfl (hb hby d1_1) rfl ((if0 _ _).trans (feq (by decide)).2) (by decide) (by decide) ?_
    exact k
  refine OFin.go S2 ?_
  have S3 : ∀ t, Steps p.tables e below (s₁.setTop (mkF m 10 #[.val (.int (3 : Int32)), .val (.int u1), .val (.int u2), .val (.int u3), .val (.int u4)] [(.int (1 : Int32)), (.int (3 : Int32))])) t → Steps p.tables e below (s₁.setTop (mkF m 8 #[.val (.int (3 : Int32)), .val (.int u1), .val (.int u2), .val (.int u3), .val (.int u4)] [])) t := by
    intro t k
    show Steps p.tables e below (s₁.setTop (mkF m 8 #[.val (.int (3 : Int32)), .val (.int u1), .val (.int u2), .val (.int u3), .val (.int u4)] [])) t
    refine XS.iloadN X0.here hx rfl (hb hby d1_8) rfl ?_
    show Steps p.tables e below (s₁.setTop (mkF m 9 #[.val (.int (3 : Int32)), .val (.int u1), .val (.int u2), .val (.int u3), .val (.int u4)] [(.int (3 : Int32))])) t
    refine XS.iconst X0.here hx rfl (hb hby d1_9) ?_
    exact k
  refine OFin.go S3 ?_
  have S4 : ∀ t, Steps p.tables e below (s₁.setTop (mkF m 22 #[.val (.int (3 : Int32)), .val (.int u1), .val (.int u2), .val (.int u3), .val (.int u4)] [])) t → Steps p.tables e below (s₁.setTop (mkF m 10 #[.val (.int (3 : Int32)), .val (.int u1), .val (.int u2), .val (.int u3), .val (.int u4)] [(.int (1 : Int32)), (.int (3 : Int32))])) t := by
    intro t k
    show Steps p.tables e below (s₁.setTop (mkF m 10 #[.val (.int (3 : Int32)), .val (.int u1), .val (.int u2), .val (.int u3), .val (.int u4)] [(.int (1 : Int32)), (.int (3 : Int32))])) t
    refine XS.icmpYes X0.here hx rfl (pc0 := 10) (pc' := 22) rfl (hb hby d1_10) rfl (feq (by decide)).2 (by decide) (by decide) ?_
    exact k
  refine OFin.go S4 ?_
  have S5 : ∀ t, Steps p.tables e below (s₁.setTop (mkF m 24 #[.val (.int (3 : Int32)), .val (.int u1), .val (.int u2), .val (.int u3), .val (.int u4)] [(.int (2 : Int32)), (.int (3 : Int32))])) t → Steps p.tables e below (s₁.setTop (mkF m 22 #[.val (.int (3 : Int32)), .val (.int u1), .val (.int u2), .val (.int u3), .val (.int u4)] [])) t := by
    intro t k
    show Steps p.tables e below (s₁.setTop (mkF m 22 #[.val (.int (3 : Int32)), .val (.int u1), .val (.int u2), .val (.int u3), .val (.int u4)] [])) t
    refine XS.iloadN X0.here hx rfl (hb hby d1_22) rfl ?_
    show Steps p.tables e below (s₁.setTop (mkF m 23 #[.val (.int (3 : Int32)), .val (.int u1), .val (.int u2), .val (.int u3), .val (.int u4)] [(.int (3 : Int32))])) t
    refine XS.iconst X0.here hx rfl (hb hby d1_23) ?_
    exact k
  refine OFin.go S5 ?_
  have S6 : ∀ t, Steps p.tables e below (s₁.setTop (mkF m 41 #[.val (.int (3 : Int32)), .val (.int u1), .val (.int u2), .val (.int u3), .val (.int u4)] [])) t → Steps p.tables e below (s₁.setTop (mkF m 24 #[.val (.int (3 : Int32)), .val (.int u1), .val (.int u2), .val (.int u3), .val (.int u4)] [(.int (2 : Int32)), (.int (3 : Int32))])) t := by
    intro t k
    show Steps p.tables e below (s₁.setTop (mkF m 24 #[.val (.int (3 : Int32)), .val (.int u1), .val (.int u2), .val (.int u3), .val (.int u4)] [(.int (2 : Int32)), (.int (3 : Int32))])) t
    refine XS.icmpYes X0.here hx rfl (pc0 := 24) (pc' := 41) rfl (hb hby d1_24) rfl (feq (by decide)).2 (by decide) (by decide) ?_
    exact k
  refine OFin.go S6 ?_
  have S7 : ∀ t, Steps p.tables e below (s₁.setTop (mkF m 43 #[.val (.int (3 : Int32)), .val (.int u1), .val (.int u2), .val (.int u3), .val (.int u4)] [(.int (3 : Int32)), (.int (3 : Int32))])) t → Steps p.tables e below (s₁.setTop (mkF m 41 #[.val (.int (3 : Int32)), .val (.int u1), .val (.int u2), .val (.int u3), .val (.int u4)] [])) t := by
    intro t k
    show Steps p.tables e below (s₁.setTop (mkF m 41 #[.val (.int (3 : Int32)), .val (.int u1), .val (.int u2), .val (.int u3), .val (.int u4)] [])) t
    refine XS.iloadN X0.here hx rfl (hb hby d1_41) rfl ?_
    show Steps p.tables e below (s₁.setTop (mkF m 42 #[.val (.int (3 : Int32)), .val (.int u1), .val (.int u2), .val (.int u3), .val (.int u4)] [(.int (3 : Int32))])) t
    refine XS.iconst X0.here hx rfl (hb hby d1_42) ?_
    exact k
  refine OFin.go S7 ?_
  have S8 : ∀ t, Steps p.tables e below (s₁.setTop (mkF m 46 #[.val (.int (3 : Int32)), .val (.int u1), .val (.int u2), .val (.int u3), .val (.int u4)] [])) t → Steps p.tables e below (s₁.setTop (mkF m 43 #[.val (.int (3 : Int32)), .val (.int u1), .val (.int u2), .val (.int u3), .val (.int u4)] [(.int (3 : Int32)), (.int (3 : Int32))])) t := by
    intro t k
    show Steps p.tables e below (s₁.setTop (mkF m 43 #[.val (.int (3 : Int32)), .val (.int u1), .val (.int u2), .val (.int u3), .val (.int u4)] [(.int (3 : Int32)), (.int (3 : Int32))])) t
    refine XS.icmpNo X0.here hx rfl (hb hby d1_43) rfl (teq (by decide)).2 ?_
    exact k
  refine OFin.go S8 ?_
  have S9 : ∀ t, Steps p.tables e below (s₁.setTop (mkF m 47 #[.val (.int (3 : Int32)), .val (.int u1), .val (.int u2), .val (.int u3), .val (.int u4)] [(.int (3 : Int32))])) t → Steps p.tables e below (s₁.setTop (mkF m 46 #[.val (.int (3 : Int32)), .val (.int u1), .val (.int u2), .val (.int u3), .val (.int u4)] [])) t := by
    intro t k
    show Steps p.tables e below (s₁.setTop (mkF m 46 #[.val (.int (3 : Int32)), .val (.int u1), .val (.int u2), .val (.int u3), .val (.int u4)] [])) t
    refine XS.iconst X0.here hx rfl (hb hby d1_46) ?_
    exact k
  refine OFin.go S9 ?_
  obtain ⟨T10, h10, k10, X10, e10, E10, A10, Q10, st10⟩ := newPB X0 hx hZ (hw _ (List.mem_of_getElem? (i := 5) rfl)) e0 (g := (mkF m 47 #[.val (.int (3 : Int32)), .val (.int u1), .val (.int u2), .val (.int u3), .val (.int u4)] [(.int (3 : Int32))])) rfl (hb hby d1_47) rfl (by decide) (cap := 3) (by decide) (by decide) (Nat.le_of_ble_eq_true rfl) (Nat.le_of_ble_eq_true rfl)
  obtain ⟨b10, g10⟩ : ∃ z, z = h0.size := ⟨_, rfl⟩
  rw [← g10] at A10 Q10 st10
  have ge10 : n0 ≤ b10 := Nat.le_trans Z0 (Nat.le_of_eq g10.symm)
  have Z10 : n0 ≤ h10.size := Nat.le_trans Z0 E10.1
  have sz10 : h0.size ≤ b10 := Nat.le_trans K0.1 (Nat.le_of_eq g10.symm)
  have K10 := Keep.ext K0 E10
  have V10 : Ara Z h10 b10 .byte 3 (fun _ => defaultValue .byte) := Ara.new A10 rfl
  refine OFin.go st10 ?_
  show OFin p e below _ (T10.setTop (mkF m 49 #[.val (.int (3 : Int32)), .val (.int u1), .val (.int u2), .val (.int u3), .val (.int u4)] [(.ref b10)]))
  have S11 : ∀ t, Steps p.tables e below (T10.setTop (mkF m 53 #[.val (.int (3 : Int32)), .val (.int u1), .val (.int u2), .val (.int u3), .val (.int u4)] [(.int (u1.toInt8.toInt32)), (.int (0 : Int32)), (.ref b10), (.ref b10)])) t → Steps p.tables e below (T10.setTop (mkF m 49 #[.val (.int (3 : Int32)), .val (.int u1), .val (.int u2), .val (.int u3), .val (.int u4)] [(.ref b10)])) t := by
    intro t k
    show Steps p.tables e below (T10.setTop (mkF m 49 #[.val (.int (3 : Int32)), .val (.int u1), .val (.int u2), .val (.int u3), .val (.int u4)] [(.ref b10)])) t
    refine XS.dup X10.here hx rfl (hb hby d1_49) rfl rfl ?_
    show Steps p.tables e below (T10.setTop (mkF m 50 #[.val (.int (3 : Int32)), .val (.int u1), .val (.int u2), .val (.int u3), .val (.int u4)] [(.ref b10), (.ref b10)])) t
    refine XS.iconst X10.here hx rfl (hb hby d1_50) ?_
    show Steps p.tables e below (T10.setTop (mkF m 51 #[.val (.int (3 : Int32)), .val (.int u1), .val (.int u2), .val (.int u3), .val (.int u4)] [(.int (0 : Int32)), (.ref b10), (.ref b10)])) t
    refine XS.iloadN X10.here hx rfl (hb hby d1_51) rfl ?_
    show Steps p.tables e below (T10.setTop (mkF m 52 #[.val (.int (3 : Int32)), .val (.int u1), .val (.int u2), .val (.int u3), .val (.int u4)] [(.int u1), (.int (0 : Int32)), (.ref b10), (.ref b10)])) t
    refine XS.i2b X10.here hx rfl (hb hby d1_52) rfl ?_
    exact k
  refine OFin.go S11 ?_
  obtain ⟨T12, h12, X12, e12, W12, st12⟩ := wrB X10 hx hZ e10 V10 (i := 0) (by decide) rfl (by decide) (y' := (u1.toInt8.toInt32)) (nar_b _) (g := (mkF m 53 #[.val (.int (3 : Int32)), .val (.int u1), .val (.int u2), .val (.int u3), .val (.int u4)] [(.int (u1.toInt8.toInt32)), (.int (0 : Int32)), (.ref b10), (.ref b10)])) rfl rfl (hb hby d1_53)
  have V12 := V10.set W12
  have N12 := Fr.snoc X12 N0 ge10
  have Z12 : n0 ≤ h12.size := Nat.le_trans Z10 (wr_le W12)
  have K12 := Keep.wr K10 W12 (Or.inr sz10)
  refine OFin.go st12 ?_
  show OFin p e below _ (T12.setTop (mkF m 54 #[.val (.int (3 : Int32)), .val (.int u1), .val (.int u2), .val (.int u3), .val (.int u4)] [(.ref b10)]))
  have S13 : ∀ t, Steps p.tables e below (T12.setTop (mkF m 58 #[.val (.int (3 : Int32)), .val (.int u1), .val (.int u2), .val (.int u3), .val (.int u4)] [(.int (u2.toInt8.toInt32)), (.int (1 : Int32)), (.ref b10), (.ref b10)])) t → Steps p.tables e below (T12.setTop (mkF m 54 #[.val (.int (3 : Int32)), .val (.int u1), .val (.int u2), .val (.int u3), .val (.int u4)] [(.ref b10)])) t := by
    intro t k
    show Steps p.tables e below (T12.setTop (mkF m 54 #[.val (.int (3 : Int32)), .val (.int u1), .val (.int u2), .val (.int u3), .val (.int u4)] [(.ref b10)])) t
    refine XS.dup X12.here hx rfl (hb hby d1_54) rfl rfl ?_
    show Steps p.tables e below (T12.setTop (mkF m 55 #[.val (.int (3 : Int32)), .val (.int u1), .val (.int u2), .val (.int u3), .val (.int u4)] [(.ref b10), (.ref b10)])) t
    refine XS.iconst X12.here hx rfl (hb hby d1_55) ?_
    show Steps p.tables e below (T12.setTop (mkF m 56 #[.val (.int (3 : Int32)), .val (.int u1), .val (.int u2), .val (.int u3), .val (.int u4)] [(.int (1 : Int32)), (.ref b10), (.ref b10)])) t
    refine XS.iloadN X12.here hx rfl (hb hby d1_56) rfl ?_
    show Steps p.tables e below (T12.setTop (mkF m 57 #[.val (.int (3 : Int32)), .val (.int u1), .val (.int u2), .val (.int u3), .val (.int u4)] [(.int u2), (.int (1 : Int32)), (.ref b10), (.ref b10)])) t
    refine XS.i2b X12.here hx rfl (hb hby d1_57) rfl ?_
    exact k
  refine OFin.go S13 ?_
  obtain ⟨T14, h14, X14, e14, W14, st14⟩ := wrB X12 hx hZ e12 V12 (i := 1) (by decide) rfl (by decide) (y' := (u2.toInt8.toInt32)) (nar_b _) (g := (mkF m 58 #[.val (.int (3 : Int32)), .val (.int u1), .val (.int u2), .val (.int u3), .val (.int u4)] [(.int (u2.toInt8.toInt32)), (.int (1 : Int32)), (.ref b10), (.ref b10)])) rfl rfl (hb hby d1_58)
  have V14 := V12.set W14
  have N14 := Fr.snoc X14 N12 ge10
  have Z14 : n0 ≤ h14.size := Nat.le_trans Z12 (wr_le W14)
  have K14 := Keep.wr K12 W14 (Or.inr sz10)
  refine OFin.go st14 ?_
  show OFin p e below _ (T14.setTop (mkF m 59 #[.val (.int (3 : Int32)), .val (.int u1), .val (.int u2), .val (.int u3), .val (.int u4)] [(.ref b10)]))
  have S15 : ∀ t, Steps p.tables e below (T14.setTop (mkF m 63 #[.val (.int (3 : Int32)), .val (.int u1), .val (.int u2), .val (.int u3), .val (.int u4)] [(.int (u3.toInt8.toInt32)), (.int (2 : Int32)), (.ref b10), (.ref b10)])) t → Steps p.tables e below (T14.setTop (mkF m 59 #[.val (.int (3 : Int32)), .val (.int u1), .val (.int u2), .val (.int u3), .val (.int u4)] [(.ref b10)])) t := by
    intro t k
    show Steps p.tables e below (T14.setTop (mkF m 59 #[.val (.int (3 : Int32)), .val (.int u1), .val (.int u2), .val (.int u3), .val (.int u4)] [(.ref b10)])) t
    refine XS.dup X14.here hx rfl (hb hby d1_59) rfl rfl ?_
    show Steps p.tables e below (T14.setTop (mkF m 60 #[.val (.int (3 : Int32)), .val (.int u1), .val (.int u2), .val (.int u3), .val (.int u4)] [(.ref b10), (.ref b10)])) t
    refine XS.iconst X14.here hx rfl (hb hby d1_60) ?_
    show Steps p.tables e below (T14.setTop (mkF m 61 #[.val (.int (3 : Int32)), .val (.int u1), .val (.int u2), .val (.int u3), .val (.int u4)] [(.int (2 : Int32)), (.ref b10), (.ref b10)])) t
    refine XS.iloadN X14.here hx rfl (hb hby d1_61) rfl ?_
    show Steps p.tables e below (T14.setTop (mkF m 62 #[.val (.int (3 : Int32)), .val (.int u1), .val (.int u2), .val (.int u3), .val (.int u4)] [(.int u3), (.int (2 : Int32)), (.ref b10), (.ref b10)])) t
    refine XS.i2b X14.here hx rfl (hb hby d1_62) rfl ?_
    exact k
  refine OFin.go S15 ?_
  obtain ⟨T16, h16, X16, e16, W16, st16⟩ := wrB X14 hx hZ e14 V14 (i := 2) (by decide) rfl (by decide) (y' := (u3.toInt8.toInt32)) (nar_b _) (g := (mkF m 63 #[.val (.int (3 : Int32)), .val (.int u1), .val (.int u2), .val (.int u3), .val (.int u4)] [(.int (u3.toInt8.toInt32)), (.int (2 : Int32)), (.ref b10), (.ref b10)])) rfl rfl (hb hby d1_63)
  have V16 := V14.set W16
  have N16 := Fr.snoc X16 N14 ge10
  have Z16 : n0 ≤ h16.size := Nat.le_trans Z14 (wr_le W16)
  have K16 := Keep.wr K14 W16 (Or.inr sz10)
  refine OFin.go st16 ?_
  show OFin p e below _ (T16.setTop (mkF m 64 #[.val (.int (3 : Int32)), .val (.int u1), .val (.int u2), .val (.int u3), .val (.int u4)] [(.ref b10)]))
  have F17 := Q10.wr W12
  have F18 := F17.wr W14
  have F19 := F18.wr W16
  exact finA X16 hx Bd.notSynchronized rfl Bd.returns rfl (hb hby d1_64) (by decide) (by decide) (by rw [e16]; exact ⟨b10, rfl, N16, K16, sz10, F19, V16.congr (fun i hi => by match i, hi with | 0, _ => rfl | 1, _ => rfl | 2, _ => rfl)⟩)
theorem ef_rm1_4 (m : MethodId) (u1 : Int32) (u2 : Int32) (u3 : Int32) (u4 : Int32) : entryFrame m #[(.int (4 : Int32)), (.int u1), (.int u2), (.int u3), (.int u4)] 5 = mkF m 0 #[.val (.int (4 : Int32)), .val (.int u1), .val (.int u2), .val (.int u3), .val (.int u4)] [] := by first | (simp [entryFrame, mkF, argsToLocals, Value.category]; done) | rfl
def Q_rm1_4 (Z : State) (u1 : Int32) (u2 : Int32) (u3 : Int32) (u4 : Int32)  (h0 : Heap) (n0 : Nat) (v : Option Value) (h : Heap) (L : List Loc) : Prop := ∃ b, v = some (.ref b) ∧ Fr n0 L ∧ Keep h0 h [] ∧ h0.size ≤ b ∧ Exa Z h b "[B" ∧ Ara Z h b .byte 4 (bf u1 u2 u3 u4)
theorem d1_65 : decode method_2_code 65 = .ok (.iconst 4, 1) := by decide +kernel
theorem d1_66 : decode method_2_code 66 = .ok (.newarray .byte, 2) := by decide +kernel
theorem d1_68 : decode method_2_code 68 = .ok (.dup, 1) := by decide +kernel
theorem d1_69 : decode method_2_code 69 = .ok (.iconst 0, 1) := by decide +kernel
theorem d1_70 : decode method_2_code 70 = .ok (.iload_n 1, 1) := by decide +kernel
theorem d1_71 : decode method_2_code 71 = .ok (.i2b, 1) := by decide +kernel
theorem d1_72 : decode method_2_code 72 = .ok (.bastore, 1) := by decide +kernel
theorem d1_73 : decode method_2_code 73 = .ok (.dup, 1) := by decide +kernel
theorem d1_74 : decode method_2_code 74 = .ok (.iconst 1, 1) := by decide +kernel
theorem d1_75 : decode method_2_code 75 = .ok (.iload_n 2, 1) := by decide +kernel
theorem d1_76 : decode method_2_code 76 = .ok (.i2b, 1) := by decide +kernel
theorem d1_77 : decode method_2_code 77 = .ok (.bastore, 1) := by decide +kernel
theorem d1_78 : decode method_2_code 78 = .ok (.dup, 1) := by decide +kernel
theorem d1_79 : decode method_2_code 79 = .ok (.iconst 2, 1) := by decide +kernel
theorem d1_80 : decode method_2_code 80 = .ok (.iload_n 3, 1) := by decide +kernel
theorem d1_81 : decode method_2_code 81 = .ok (.i2b, 1) := by decide +kernel
theorem d1_82 : decode method_2_code 82 = .ok (.bastore, 1) := by decide +kernel
theorem d1_83 : decode method_2_code 83 = .ok (.dup, 1) := by decide +kernel
theorem d1_84 : decode method_2_code 84 = .ok (.iconst 3, 1) := by decide +kernel
theorem d1_85 : decode method_2_code 85 = .ok (.iload 4, 2) := by decide +kernel
theorem d1_87 : decode method_2_code 87 = .ok (.i2b, 1) := by decide +kernel
theorem d1_88 : decode method_2_code 88 = .ok (.bastore, 1) := by decide +kernel
theorem d1_89 : decode method_2_code 89 = .ok (.areturn, 1) := by decide +kernel
set_option maxRecDepth 65536 in
set_option maxHeartbeats 40000000 in
theorem rm1_4 (l : Launch) (Z : State) (a0 : Array Value) (hw : ∀ d ∈ tables_1, d.before a0 Z = true) (ws : List Jvm.Cond) (u1 : Int32) (u2 : Int32) (u3 : Int32) (u4 : Int32)  (h0 : Heap) (n0 : Nat) (Z0 : n0 ≤ h0.size)  :
    MetFree l (⟨"com/example/cardbench/cardbench/FrameOfPinLaw", "build", "(IIIII)[B"⟩ : MethodName) (head1 (Jvm.Cond.code (⟨"com/example/cardbench/cardbench/FrameOfPinLaw", "build", "(IIIII)[B"⟩ : MethodName) method_2_code 5 (some (.array .byte)) :: ws) ({ frames := 0, cells := 1, slots := 4, locals := 0 } : Room)) (fun a U => a = #[(.int (4 : Int32)), (.int u1), (.int u2), (.int u3), (.int u4)] ∧ Z.Warmed39 U.vm ∧ U.heap = h0) (fun _ _ _ _ _ => True) (fun _ U o U' => ∃ v L, o = .returned v ∧ (Q_rm1_4 Z u1 u2 u3 u4 h0 n0) v U'.heap L ∧ FrameEnd U o U' L ({ frames := 0, cells := 1, slots := 4, locals := 0 } : Room).cells ({ frames := 0, cells := 1, slots := 4, locals := 0 } : Room).slots) := by
  refine MetFree.of_bodySF (plainFor_of_name pn_0) hisR ?_
  intro p e s m args below meth c s₁ Bd hml0 hP hK
  obtain ⟨rfl, hZ, hh⟩ := hP
  have hx := Bd.exec
  have hby := Bd.bytes
  have hml : c.maxLocals = 5 := hml0
  have hown : s.vm.findClass "com/example/cardbench/cardbench/FrameOfPinLaw" = some m.cls := findClass_of_methodNamed Bd.named
  have hnm := (name_of_methodNamed Bd.named Bd.method).1
  have X0 : Stand p l e ({ frames := 0, cells := 1, slots := 4, locals := 0 } : Room) s m #[(.int (4 : Int32)), (.int u1), (.int u2), (.int u3), (.int u4)] below meth c s₁ [] 0 0 := Stand.of_body Bd
  have e0 : s₁.heap = h0 := by rw [← hh, Bd.state]; rfl
  have N0 := Fr.nil n0
  show OFin p e below (ORet (Q_rm1_4 Z u1 u2 u3 u4 h0 n0) s ({ frames := 0, cells := 1, slots := 4, locals := 0 } : Room).cells ({ frames := 0, cells := 1, slots := 4, locals := 0 } : Room).slots) (s₁.setTop (entryFrame m #[(.int (4 : Int32)), (.int u1), (.int u2), (.int u3), (.int u4)] 5))
  refine OFin.go (fun t k => castTop (ef_rm1_4 m u1 u2 u3 u4) k) ?_
  have K0 := Keep.refl h0 []
  show OFin p e below (ORet (Q_rm1_4 Z u1 u2 u3 u4 h0 n0) s ({ frames := 0, cells := 1, slots := 4, locals := 0 } : Room).cells ({ frames := 0, cells := 1, slots := 4, locals := 0 } : Room).slots) (s₁.setTop (mkF m 0 #[.val (.int (4 : Int32)), .val (.int u1), .val (.int u2), .val (.int u3), .val (.int u4)] []))
  have S1 : ∀ t, Steps p.tables e below (s₁.setTop (mkF m 1 #[.val (.int (4 : Int32)), .val (.int u1), .val (.int u2), .val (.int u3), .val (.int u4)] [(.int (4 : Int32))])) t → Steps p.tables e below (s₁.setTop (mkF m 0 #[.val (.int (4 : Int32)), .val (.int u1), .val (.int u2), .val (.int u3), .val (.int u4)] [])) t := by
    intro t k
    show Steps p.tables e below (s₁.setTop (mkF m 0 #[.val (.int (4 : Int32)), .val (.int u1), .val (.int u2), .val (.int u3), .val (.int u4)] [])) t
    refine XS.iloadN X0.here hx rfl (hb hby d1_0) rfl ?_
    exact k
  refine OFin.go S1 ?_
  have S2 : ∀ t, Steps p.tables e below (s₁.setTop (mkF m 8 #[.val (.int (4 : Int32)), .val (.int u1), .val (.int u2), .val (.int u3), .val (.int u4)] [])) t → Steps p.tables e below (s₁.setTop (mkF m 1 #[.val (.int (4 : Int32)), .val (.int u1), .val (.int u2), .val (.int u3), .val (.int u4)] [(.int (4 : Int32))])) t := by
    intro t k
    show Steps p.tables e below (s₁.setTop (mkF m 1 #[.val (.int (4 : Int32)), .val (.int u1), .val (.int u2), .val (.int u3), .val (.int u4)] [(.int (4 : Int32))])) t
    refine XS.ifYes X0.here hx rfl (pc0 := 1) (pc' := 8) rfl (hb hby d1_1) rfl ((if0 _ _).trans (feq (by decide)).2) (by decide) (by decide) ?_
    exact k
  refine OFin.go S2 ?_
  have S3 : ∀ t, Steps p.tables e below (s₁.setTop (mkF m 10 #[.val (.int (4 : Int32)), .val (.int u1), .val (.int u2), .val (.int u3), .val (.int u4)] [(.int (1 : Int32)), (.int (4 : Int32))])) t → Steps p.tables e below (s₁.setTop (mkF m 8 #[.val (.int (4 : Int32)), .val (.int u1), .val (.int u2), .val (.int u3), .val (.int u4)] [])) t := by
    intro t k
    show Steps p.tables e below (s₁.setTop (mkF m 8 #[.val (.int (4 : Int32)), .val (.int u1), .val (.int u2), .val (.int u3), .val (.int u4)] [])) t
    refine XS.iloadN X0.here hx rfl (hb hby d1_8) rfl ?_
    show Steps p.tables e below (s₁.setTop (mkF m 9 #[.val (.int (4 : Int32)), .val (.int u1), .val (.int u2), .val (.int u3), .val (.int u4)] [(.int (4 : Int32))])) t
    refine XS.iconst X0.here hx rfl (hb hby d1_9) ?_
    exact k
  refine OFin.go S3 ?_
  have S4 : ∀ t, Steps p.tables e below (s₁.setTop (mkF m 22 #[.val (.int (4 : Int32)), .val (.int u1), .val (.int u2), .val (.int u3), .val (.int u4)] [])) t → Steps p.tables e below (s₁.setTop (mkF m 10 #[.val (.int (4 : Int32)), .val (.int u1), .val (.int u2), .val (.int u3), .val (.int u4)] [(.int (1 : Int32)), (.int (4 : Int32))])) t := by
    intro t k
    show Steps p.tables e below (s₁.setTop (mkF m 10 #[.val (.int (4 : Int32)), .val (.int u1), .val (.int u2), .val (.int u3), .val (.int u4)] [(.int (1 : Int32)), (.int (4 : Int32))])) t
    refine XS.icmpYes X0.here hx rfl (pc0 := 10) (pc' := 22) rfl (hb hby d1_10) rfl (feq (by decide)).2 (by decide) (by decide) ?_
    exact k
  refine OFin.go S4 ?_
  have S5 : ∀ t, Steps p.tables e below (s₁.setTop (mkF m 24 #[.val (.int (4 : Int32)), .val (.int u1), .val (.int u2), .val (.int u3), .val (.int u4)] [(.int (2 : Int32)), (.int (4 : Int32))])) t → Steps p.tables e below (s₁.setTop (mkF m 22 #[.val (.int (4 : Int32)), .val (.int u1), .val (.int u2), .val (.int u3), .val (.int u4)] [])) t := by
    intro t k
    show Steps p.tables e below (s₁.setTop (mkF m 22 #[.val (.int (4 : Int32)), .val (.int u1), .val (.int u2), .val (.int u3), .val (.int u4)] [])) t
    refine XS.iloadN X0.here hx rfl (hb hby d1_22) rfl ?_
    show Steps p.tables e below (s₁.setTop (mkF m 23 #[.val (.int (4 : Int32)), .val (.int u1), .val (.int u2), .val (.int u3), .val (.int u4)] [(.int (4 : Int32))])) t
    refine XS.iconst X0.here hx rfl (hb hby d1_23) ?_
    exact k
  refine OFin.go S5 ?_
  have S6 : ∀ t, Steps p.tables e below (s₁.setTop (mkF m 41 #[.val (.int (4 : Int32)), .val (.int u1), .val (.int u2), .val (.int u3), .val (.int u4)] [])) t → Steps p.tables e below (s₁.setTop (mkF m 24 #[.val (.int (4 : Int32)), .val (.int u1), .val (.int u2), .val (.int u3), .val (.int u4)] [(.int (2 : Int32)), (.int (4 : Int32))])) t := by
    intro t k
    show Steps p.tables e below (s₁.setTop (mkF m 24 #[.val (.int (4 : Int32)), .val (.int u1), .val (.int u2), .val (.int u3), .val (.int u4)] [(.int (2 : Int32)), (.int (4 : Int32))])) t
    refine XS.icmpYes X0.here hx rfl (pc0 := 24) (pc' := 41) rfl (hb hby d1_24) rfl (feq (by decide)).2 (by decide) (by decide) ?_
    exact k
  refine OFin.go S6 ?_
  have S7 : ∀ t, Steps p.tables e below (s₁.setTop (mkF m 43 #[.val (.int (4 : Int32)), .val (.int u1), .val (.int u2), .val (.int u3), .val (.int u4)] [(.int (3 : Int32)), (.int (4 : Int32))])) t → Steps p.tables e below (s₁.setTop (mkF m 41 #[.val (.int (4 : Int32)), .val (.int u1), .val (.int u2), .val (.int u3), .val (.int u4)] [])) t := by
    intro t k
    show Steps p.tables e below (s₁.setTop (mkF m 41 #[.val (.int (4 : Int32)), .val (.int u1), .val (.int u2), .val (.int u3), .val (.int u4)] [])) t
    refine XS.iloadN X0.here hx rfl (hb hby d1_41) rfl ?_
    show Steps p.tables e below (s₁.setTop (mkF m 42 #[.val (.int (4 : Int32)), .val (.int u1), .val (.int u2), .val (.int u3), .val (.int u4)] [(.int (4 : Int32))])) t
    refine XS.iconst X0.here hx rfl (hb hby d1_42) ?_
    exact k
  refine OFin.go S7 ?_
  have S8 : ∀ t, Steps p.tables e below (s₁.setTop (mkF m 65 #[.val (.int (4 : Int32)), .val (.int u1), .val (.int u2), .val (.int u3), .val (.int u4)] [])) t → Steps p.tables e below (s₁.setTop (mkF m 43 #[.val (.int (4 : Int32)), .val (.int u1), .val (.int u2), .val (.int u3), .val (.int u4)] [(.int (3 : Int32)), (.int (4 : Int32))])) t := by
    intro t k
    show Steps p.tables e below (s₁.setTop (mkF m 43 #[.val (.int (4 : Int32)), .val (.int u1), .val (.int u2), .val (.int u3), .val (.int u4)] [(.int (3 : Int32)), (.int (4 : Int32))])) t
    refine XS.icmpYes X0.here hx rfl (pc0 := 43) (pc' := 65) rfl (hb hby d1_43) rfl (feq (by decide)).2 (by decide) (by decide) ?_
    exact k
  refine OFin.go S8 ?_
  have S9 : ∀ t, Steps p.tables e below (s₁.setTop (mkF m 66 #[.val (.int (4 : Int32)), .val (.int u1), .val (.int u2), .val (.int u3), .val (.int u4)] [(.int (4 : Int32))])) t → Steps p.tables e below (s₁.setTop (mkF m 65 #[.val (.int (4 : Int32)), .val (.int u1), .val (.int u2), .val (.int u3), .val (.int u4)] [])) t := by
    intro t k
    show Steps p.tables e below (s₁.setTop (mkF m 65 #[.val (.int (4 : Int32)), .val (.int u1), .val (.int u2), .val (.int u3), .val (.int u4)] [])) t
    refine XS.iconst X0.here hx rfl (hb hby d1_65) ?_
    exact k
  refine OFin.go S9 ?_
  obtain ⟨T10, h10, k10, X10, e10, E10, A10, Q10, st10⟩ := newPB X0 hx hZ (hw _ (List.mem_of_getElem? (i := 5) rfl)) e0 (g := (mkF m 66 #[.val (.int (4 : Int32)), .val (.int u1), .val (.int u2), .val (.int u3), .val (.int u4)] [(.int (4 : Int32))])) rfl (hb hby d1_66) rfl (by decide) (cap := 4) (by decide) (by decide) (Nat.le_of_ble_eq_true rfl) (Nat.le_of_ble_eq_true rfl)
  obtain ⟨b10, g10⟩ : ∃ z, z = h0.size := ⟨_, rfl⟩
  rw [← g10] at A10 Q10 st10
  have ge10 : n0 ≤ b10 := Nat.le_trans Z0 (Nat.le_of_eq g10.symm)
  have Z10 : n0 ≤ h10.size := Nat.le_trans Z0 E10.1
  have sz10 : h0.size ≤ b10 := Nat.le_trans K0.1 (Nat.le_of_eq g10.symm)
  have K10 := Keep.ext K0 E10
  have V10 : Ara Z h10 b10 .byte 4 (fun _ => defaultValue .byte) := Ara.new A10 rfl
  refine OFin.go st10 ?_
  show OFin p e below _ (T10.setTop (mkF m 68 #[.val (.int (4 : Int32)), .val (.int u1), .val (.int u2), .val (.int u3), .val (.int u4)] [(.ref b10)]))
  have S11 : ∀ t, Steps p.tables e below (T10.setTop (mkF m 72 #[.val (.int (4 : Int32)), .val (.int u1), .val (.int u2), .val (.int u3), .val (.int u4)] [(.int (u1.toInt8.toInt32)), (.int (0 : Int32)), (.ref b10), (.ref b10)])) t → Steps p.tables e below (T10.setTop (mkF m 68 #[.val (.int (4 : Int32)), .val (.int u1), .val (.int u2), .val (.int u3), .val (.int u4)] [(.ref b10)])) t := by
    intro t k
    show Steps p.tables e below (T10.setTop (mkF m 68 #[.val (.int (4 : Int32)), .val (.int u1), .val (.int u2), .val (.int u3), .val (.int u4)] [(.ref b10)])) t
    refine XS.dup X10.here hx rfl (hb hby d1_68) rfl rfl ?_
    show Steps p.tables e below (T10.setTop (mkF m 69 #[.val (.int (4 : Int32)), .val (.int u1), .val (.int u2), .val (.int u3), .val (.int u4)] [(.ref b10), (.ref b10)])) t
    refine XS.iconst X10.here hx rfl (hb hby d1_69) ?_
    show Steps p.tables e below (T10.setTop (mkF m 70 #[.val (.int (4 : Int32)), .val (.int u1), .val (.int u2), .val (.int u3), .val (.int u4)] [(.int (0 : Int32)), (.ref b10), (.ref b10)])) t
    refine XS.iloadN X10.here hx rfl (hb hby d1_70) rfl ?_
    show Steps p.tables e below (T10.setTop (mkF m 71 #[.val (.int (4 : Int32)), .val (.int u1), .val (.int u2), .val (.int u3), .val (.int u4)] [(.int u1), (.int (0 : Int32)), (.ref b10), (.ref b10)])) t
    refine XS.i2b X10.here hx rfl (hb hby d1_71) rfl ?_
    exact k
  refine OFin.go S11 ?_
  obtain ⟨T12, h12, X12, e12, W12, st12⟩ := wrB X10 hx hZ e10 V10 (i := 0) (by decide) rfl (by decide) (y' := (u1.toInt8.toInt32)) (nar_b _) (g := (mkF m 72 #[.val (.int (4 : Int32)), .val (.int u1), .val (.int u2), .val (.int u3), .val (.int u4)] [(.int (u1.toInt8.toInt32)), (.int (0 : Int32)), (.ref b10), (.ref b10)])) rfl rfl (hb hby d1_72)
  have V12 := V10.set W12
  have N12 := Fr.snoc X12 N0 ge10
  have Z12 : n0 ≤ h12.size := Nat.le_trans Z10 (wr_le W12)
  have K12 := Keep.wr K10 W12 (Or.inr sz10)
  refine OFin.go st12 ?_
  show OFin p e below _ (T12.setTop (mkF m 73 #[.val (.int (4 : Int32)), .val (.int u1), .val (.int u2), .val (.int u3), .val (.int u4)] [(.ref b10)]))
  have S13 : ∀ t, Steps p.tables e below (T12.setTop (mkF m 77 #[.val (.int (4 : Int32)), .val (.int u1), .val (.int u2), .val (.int u3), .val (.int u4)] [(.int (u2.toInt8.toInt32)), (.int (1 : Int32)), (.ref b10), (.ref b10)])) t → Steps p.tables e below (T12.setTop (mkF m 73 #[.val (.int (4 : Int32)), .val (.int u1), .val (.int u2), .val (.int u3), .val (.int u4)] [(.ref b10)])) t := by
    intro t k
    show Steps p.tables e below (T12.setTop (mkF m 73 #[.val (.int (4 : Int32)), .val (.int u1), .val (.int u2), .val (.int u3), .val (.int u4)] [(.ref b10)])) t
    refine XS.dup X12.here hx rfl (hb hby d1_73) rfl rfl ?_
    show Steps p.tables e below (T12.setTop (mkF m 74 #[.val (.int (4 : Int32)), .val (.int u1), .val (.int u2), .val (.int u3), .val (.int u4)] [(.ref b10), (.ref b10)])) t
    refine XS.iconst X12.here hx rfl (hb hby d1_74) ?_
    show Steps p.tables e below (T12.setTop (mkF m 75 #[.val (.int (4 : Int32)), .val (.int u1), .val (.int u2), .val (.int u3), .val (.int u4)] [(.int (1 : Int32)), (.ref b10), (.ref b10)])) t
    refine XS.iloadN X12.here hx rfl (hb hby d1_75) rfl ?_
    show Steps p.tables e below (T12.setTop (mkF m 76 #[.val (.int (4 : Int32)), .val (.int u1), .val (.int u2), .val (.int u3), .val (.int u4)] [(.int u2), (.int (1 : Int32)), (.ref b10), (.ref b10)])) t
    refine XS.i2b X12.here hx rfl (hb hby d1_76) rfl ?_
    exact k
  refine OFin.go S13 ?_
  obtain ⟨T14, h14, X14, e14, W14, st14⟩ := wrB X12 hx hZ e12 V12 (i := 1) (by decide) rfl (by decide) (y' := (u2.toInt8.toInt32)) (nar_b _) (g := (mkF m 77 #[.val (.int (4 : Int32)), .val (.int u1), .val (.int u2), .val (.int u3), .val (.int u4)] [(.int (u2.toInt8.toInt32)), (.int (1 : Int32)), (.ref b10), (.ref b10)])) rfl rfl (hb hby d1_77)
  have V14 := V12.set W14
  have N14 := Fr.snoc X14 N12 ge10
  have Z14 : n0 ≤ h14.size := Nat.le_trans Z12 (wr_le W14)
  have K14 := Keep.wr K12 W14 (Or.inr sz10)
  refine OFin.go st14 ?_
  show OFin p e below _ (T14.setTop (mkF m 78 #[.val (.int (4 : Int32)), .val (.int u1), .val (.int u2), .val (.int u3), .val (.int u4)] [(.ref b10)]))
  have S15 : ∀ t, Steps p.tables e below (T14.setTop (mkF m 82 #[.val (.int (4 : Int32)), .val (.int u1), .val (.int u2), .val (.int u3), .val (.int u4)] [(.int (u3.toInt8.toInt32)), (.int (2 : Int32)), (.ref b10), (.ref b10)])) t → Steps p.tables e below (T14.setTop (mkF m 78 #[.val (.int (4 : Int32)), .val (.int u1), .val (.int u2), .val (.int u3), .val (.int u4)] [(.ref b10)])) t := by
    intro t k
    show Steps p.tables e below (T14.setTop (mkF m 78 #[.val (.int (4 : Int32)), .val (.int u1), .val (.int u2), .val (.int u3), .val (.int u4)] [(.ref b10)])) t
    refine XS.dup X14.here hx rfl (hb hby d1_78) rfl rfl ?_
    show Steps p.tables e below (T14.setTop (mkF m 79 #[.val (.int (4 : Int32)), .val (.int u1), .val (.int u2), .val (.int u3), .val (.int u4)] [(.ref b10), (.ref b10)])) t
    refine XS.iconst X14.here hx rfl (hb hby d1_79) ?_
    show Steps p.tables e below (T14.setTop (mkF m 80 #[.val (.int (4 : Int32)), .val (.int u1), .val (.int u2), .val (.int u3), .val (.int u4)] [(.int (2 : Int32)), (.ref b10), (.ref b10)])) t
    refine XS.iloadN X14.here hx rfl (hb hby d1_80) rfl ?_
    show Steps p.tables e below (T14.setTop (mkF m 81 #[.val (.int (4 : Int32)), .val (.int u1), .val (.int u2), .val (.int u3), .val (.int u4)] [(.int u3), (.int (2 : Int32)), (.ref b10), (.ref b10)])) t
    refine XS.i2b X14.here hx rfl (hb hby d1_81) rfl ?_
    exact k
  refine OFin.go S15 ?_
  obtain ⟨T16, h16, X16, e16, W16, st16⟩ := wrB X14 hx hZ e14 V14 (i := 2) (by decide) rfl (by decide) (y' := (u3.toInt8.toInt32)) (nar_b _) (g := (mkF m 82 #[.val (.int (4 : Int32)), .val (.int u1), .val (.int u2), .val (.int u3), .val (.int u4)] [(.int (u3.toInt8.toInt32)), (.int (2 : Int32)), (.ref b10), (.ref b10)])) rfl rfl (hb hby d1_82)
  have V16 := V14.set W16
  have N16 := Fr.snoc X16 N14 ge10
  have Z16 : n0 ≤ h16.size := Nat.le_trans Z14 (wr_le W16)
  have K16 := Keep.wr K14 W16 (Or.inr sz10)
  refine OFin.go st16 ?_
  show OFin p e below _ (T16.setTop (mkF m 83 #[.val (.int (4 : Int32)), .val (.int u1), .val (.int u2), .val (.int u3), .val (.int u4)] [(.ref b10)]))
  have S17 : ∀ t, Steps p.tables e below (T16.setTop (mkF m 88 #[.val (.int (4 : Int32)), .val (.int u1), .val (.int u2), .val (.int u3), .val (.int u4)] [(.int (u4.toInt8.toInt32)), (.int (3 : Int32)), (.ref b10), (.ref b10)])) t → Steps p.tables e below (T16.setTop (mkF m 83 #[.val (.int (4 : Int32)), .val (.int u1), .val (.int u2), .val (.int u3), .val (.int u4)] [(.ref b10)])) t := by
    intro t k
    show Steps p.tables e below (T16.setTop (mkF m 83 #[.val (.int (4 : Int32)), .val (.int u1), .val (.int u2), .val (.int u3), .val (.int u4)] [(.ref b10)])) t
    refine XS.dup X16.here hx rfl (hb hby d1_83) rfl rfl ?_
    show Steps p.tables e below (T16.setTop (mkF m 84 #[.val (.int (4 : Int32)), .val (.int u1), .val (.int u2), .val (.int u3), .val (.int u4)] [(.ref b10), (.ref b10)])) t
    refine XS.iconst X16.here hx rfl (hb hby d1_84) ?_
    show Steps p.tables e below (T16.setTop (mkF m 85 #[.val (.int (4 : Int32)), .val (.int u1), .val (.int u2), .val (.int u3), .val (.int u4)] [(.int (3 : Int32)), (.ref b10), (.ref b10)])) t
    refine XS.iload X16.here hx rfl (hb hby d1_85) rfl ?_
    show Steps p.tables e below (T16.setTop (mkF m 87 #[.val (.int (4 : Int32)), .val (.int u1), .val (.int u2), .val (.int u3), .val (.int u4)] [(.int u4), (.int (3 : Int32)), (.ref b10), (.ref b10)])) t
    refine XS.i2b X16.here hx rfl (hb hby d1_87) rfl ?_
    exact k
  refine OFin.go S17 ?_
  obtain ⟨T18, h18, X18, e18, W18, st18⟩ := wrB X16 hx hZ e16 V16 (i := 3) (by decide) rfl (by decide) (y' := (u4.toInt8.toInt32)) (nar_b _) (g := (mkF m 88 #[.val (.int (4 : Int32)), .val (.int u1), .val (.int u2), .val (.int u3), .val (.int u4)] [(.int (u4.toInt8.toInt32)), (.int (3 : Int32)), (.ref b10), (.ref b10)])) rfl rfl (hb hby d1_88)
  have V18 := V16.set W18
  have N18 := Fr.snoc X18 N16 ge10
  have Z18 : n0 ≤ h18.size := Nat.le_trans Z16 (wr_le W18)
  have K18 := Keep.wr K16 W18 (Or.inr sz10)
  refine OFin.go st18 ?_
  show OFin p e below _ (T18.setTop (mkF m 89 #[.val (.int (4 : Int32)), .val (.int u1), .val (.int u2), .val (.int u3), .val (.int u4)] [(.ref b10)]))
  have F19 := Q10.wr W12
  have F20 := F19.wr W14
  have F21 := F20.wr W16
  have F22 := F21.wr W18
  exact finA X18 hx Bd.notSynchronized rfl Bd.returns rfl (hb hby d1_89) (by decide) (by decide) (by rw [e18]; exact ⟨b10, rfl, N18, K18, sz10, F22, V18.congr (fun i hi => by match i, hi with | 0, _ => rfl | 1, _ => rfl | 2, _ => rfl | 3, _ => rfl)⟩)
theorem ef_rm3 (m : MethodId) (o0 : Addr) (o1 : Addr) (u2 : Int32) : entryFrame m #[(.ref o0), (.ref o1), (.int u2)] 3 = mkF m 0 #[.val (.ref o0), .val (.ref o1), .val (.int u2)] [] := by first | (simp [entryFrame, mkF, argsToLocals, Value.category]; done) | rfl
theorem pn_1 : plainName "com/example/cardbench/cardbench/Frame" = true := by first | (simp [plainName, overriddenIn]; done) | decide +kernel
def Q_rm3 (Z : State) (o0 : Addr) (o1 : Addr) (u2 : Int32)  (h0 : Heap) (n0 : Nat) (v : Option Value) (h : Heap) (L : List Loc) : Prop := v = none ∧ Fr n0 L ∧ Keep h0 h [o0] ∧ Fld Z h o0 "com/example/cardbench/cardbench/Frame" "bytes" "[B" (.ref o1) ∧ Fld Z h o0 "com/example/cardbench/cardbench/Frame" "bits" "I" (.int u2)
theorem d3_0 : decode prog_18_method_1_code 0 = .ok (.aload_n 0, 1) := by decide +kernel
theorem d3_1 : decode prog_18_method_1_code 1 = .ok (.invokespecial 1, 3) := by decide +kernel
theorem d3_4 : decode prog_18_method_1_code 4 = .ok (.aload_n 0, 1) := by decide +kernel
theorem d3_5 : decode prog_18_method_1_code 5 = .ok (.aload_n 1, 1) := by decide +kernel
theorem d3_6 : decode prog_18_method_1_code 6 = .ok (.putfield 7, 3) := by decide +kernel
theorem d3_9 : decode prog_18_method_1_code 9 = .ok (.aload_n 0, 1) := by decide +kernel
theorem d3_10 : decode prog_18_method_1_code 10 = .ok (.iload_n 2, 1) := by decide +kernel
theorem d3_11 : decode prog_18_method_1_code 11 = .ok (.putfield 13, 3) := by decide +kernel
theorem d3_14 : decode prog_18_method_1_code 14 = .ok (.return_, 1) := by decide +kernel
set_option maxRecDepth 65536 in
set_option maxHeartbeats 40000000 in
theorem rm3 (l : Launch) (Z : State) (a0 : Array Value) (hw : ∀ d ∈ tables_1, d.before a0 Z = true) (ws : List Jvm.Cond) (o0 : Addr) (o1 : Addr) (u2 : Int32)  (h0 : Heap) (n0 : Nat) (Z0 : n0 ≤ h0.size) (ge0 : n0 ≤ o0) (E0 : Exa Z h0 o0 "com/example/cardbench/cardbench/Frame") (F1 : Fld Z h0 o0 "com/example/cardbench/cardbench/Frame" "bytes" "[B" .null) (F2 : Fld Z h0 o0 "com/example/cardbench/cardbench/Frame" "bits" "I" (.int (0 : Int32))) :
    MetFree l (⟨"com/example/cardbench/cardbench/Frame", "<init>", "([BI)V"⟩ : MethodName) (head1 (Jvm.Cond.code (⟨"com/example/cardbench/cardbench/Frame", "<init>", "([BI)V"⟩ : MethodName) prog_18_method_1_code 3 none :: ws) ({ frames := 1, cells := 0, slots := 0, locals := 12 } : Room)) (fun a U => a = #[(.ref o0), (.ref o1), (.int u2)] ∧ Z.Warmed39 U.vm ∧ U.heap = h0) (fun _ _ _ _ _ => True) (fun _ U o U' => ∃ v L, o = .returned v ∧ (Q_rm3 Z o0 o1 u2 h0 n0) v U'.heap L ∧ FrameEnd U o U' L ({ frames := 1, cells := 0, slots := 0, locals := 12 } : Room).cells ({ frames := 1, cells := 0, slots := 0, locals := 12 } : Room).slots) := by
  refine MetFree.of_bodySF (plainFor_of_name pn_1) hisR ?_
  intro p e s m args below meth c s₁ Bd hml0 hP hK
  obtain ⟨rfl, hZ, hh⟩ := hP
  have hx := Bd.exec
  have hby := Bd.bytes
  have hml : c.maxLocals = 3 := hml0
  have hown : s.vm.findClass "com/example/cardbench/cardbench/Frame" = some m.cls := findClass_of_methodNamed Bd.named
  have hnm := (name_of_methodNamed Bd.named Bd.method).1
  have X0 : Stand p l e ({ frames := 1, cells := 0, slots := 0, locals := 12 } : Room) s m #[(.ref o0), (.ref o1), (.int u2)] below meth c s₁ [] 0 0 := Stand.of_body Bd
  have e0 : s₁.heap = h0 := by rw [← hh, Bd.state]; rfl
  have N0 := Fr.nil n0
  show OFin p e below (ORet (Q_rm3 Z o0 o1 u2 h0 n0) s ({ frames := 1, cells := 0, slots := 0, locals := 12 } : Room).cells ({ frames := 1, cells := 0, slots := 0, locals := 12 } : Room).slots) (s₁.setTop (entryFrame m #[(.ref o0), (.ref o1), (.int u2)] 3))
  refine OFin.go (fun t k => castTop (ef_rm3 m o0 o1 u2) k) ?_
  have K0 := Keep.refl h0 [o0]
  show OFin p e below (ORet (Q_rm3 Z o0 o1 u2 h0 n0) s ({ frames := 1, cells := 0, slots := 0, locals := 12 } : Room).cells ({ frames := 1, cells := 0, slots := 0, locals := 12 } : Room).slots) (s₁.setTop (mkF m 0 #[.val (.ref o0), .val (.ref o1), .val (.int u2)] []))
  have S1 : ∀ t, Steps p.tables e below (s₁.setTop (mkF m 1 #[.val (.ref o0), .val (.ref o1), .val (.int u2)] [(.ref o0)])) t → Steps p.tables e below (s₁.setTop (mkF m 0 #[.val (.ref o0), .val (.ref o1), .val (.int u2)] [])) t := by
    intro t k
    show Steps p.tables e below (s₁.setTop (mkF m 0 #[.val (.ref o0), .val (.ref o1), .val (.int u2)] [])) t
    refine XS.aloadN X0.here hx rfl (hb hby d3_0) rfl rfl ?_
    exact k
  refine OFin.go S1 ?_
  obtain ⟨T2, X2, e2, st2⟩ := initO X0 hx hZ hown (hw _ (List.mem_of_getElem? (i := 24) rfl)) (hw _ (List.mem_of_getElem? (i := 25) rfl)) (hw _ (List.mem_of_getElem? (i := 26) rfl)) e0 (g := (mkF m 1 #[.val (.ref o0), .val (.ref o1), .val (.int u2)] [(.ref o0)])) rfl (by rw [hml]; rfl) rfl (hb hby d3_1) (by decide) (W := 0) (by show 2 * 0 + _ ≤ _; exact Nat.le_of_eq rfl) (by decide)
  refine OFin.go st2 ?_
  show OFin p e below _ (T2.setTop (mkF m 4 #[.val (.ref o0), .val (.ref o1), .val (.int u2)] []))
  have S3 : ∀ t, Steps p.tables e below (T2.setTop (mkF m 6 #[.val (.ref o0), .val (.ref o1), .val (.int u2)] [(.ref o1), (.ref o0)])) t → Steps p.tables e below (T2.setTop (mkF m 4 #[.val (.ref o0), .val (.ref o1), .val (.int u2)] [])) t := by
    intro t k
    show Steps p.tables e below (T2.setTop (mkF m 4 #[.val (.ref o0), .val (.ref o1), .val (.int u2)] [])) t
    refine XS.aloadN X2.here hx rfl (hb hby d3_4) rfl rfl ?_
    show Steps p.tables e below (T2.setTop (mkF m 5 #[.val (.ref o0), .val (.ref o1), .val (.int u2)] [(.ref o0)])) t
    refine XS.aloadN X2.here hx rfl (hb hby d3_5) rfl rfl ?_
    exact k
  refine OFin.go S3 ?_
  obtain ⟨T4, h4, X4, e4, W4, st4⟩ := putF X2 hx hZ hown (host := "") (Or.inl (hw _ (List.mem_of_getElem? (i := 27) rfl))) Via.refl e2 F1 E0 (Or.inr ⟨(hw _ (List.mem_of_getElem? (i := 28) rfl)), rfl, hnm⟩) (hw _ (List.mem_of_getElem? (i := 11) rfl)) (ty := (.array .byte)) (by decide) rfl rfl (g := (mkF m 6 #[.val (.ref o0), .val (.ref o1), .val (.int u2)] [(.ref o1), (.ref o0)])) rfl rfl (hb hby d3_6)
  have Fw4 := F1.same W4
  have N4 := Fr.snoc X4 N0 ge0
  have Z4 : n0 ≤ h4.size := Nat.le_trans Z0 (wr_le W4)
  have K4 := Keep.wr K0 W4 (Or.inl (List.mem_of_getElem? (i := 0) rfl))
  refine OFin.go st4 ?_
  show OFin p e below _ (T4.setTop (mkF m 9 #[.val (.ref o0), .val (.ref o1), .val (.int u2)] []))
  have S5 : ∀ t, Steps p.tables e below (T4.setTop (mkF m 11 #[.val (.ref o0), .val (.ref o1), .val (.int u2)] [(.int u2), (.ref o0)])) t → Steps p.tables e below (T4.setTop (mkF m 9 #[.val (.ref o0), .val (.ref o1), .val (.int u2)] [])) t := by
    intro t k
    show Steps p.tables e below (T4.setTop (mkF m 9 #[.val (.ref o0), .val (.ref o1), .val (.int u2)] [])) t
    refine XS.aloadN X4.here hx rfl (hb hby d3_9) rfl rfl ?_
    show Steps p.tables e below (T4.setTop (mkF m 10 #[.val (.ref o0), .val (.ref o1), .val (.int u2)] [(.ref o0)])) t
    refine XS.iloadN X4.here hx rfl (hb hby d3_10) rfl ?_
    exact k
  refine OFin.go S5 ?_
  have F6 := F2.other W4 (Or.inr (slot_ne (Or.inr (hw _ (List.mem_of_getElem? (i := 30) rfl))) (Or.inr (hw _ (List.mem_of_getElem? (i := 28) rfl))) (by decide) (t := .int) (t' := (.array .byte)) (by decide) (by decide)))
  have F7 := E0.wr W4
  obtain ⟨T8, h8, X8, e8, W8, st8⟩ := putF X4 hx hZ hown (host := "") (Or.inl (hw _ (List.mem_of_getElem? (i := 29) rfl))) Via.refl e4 F6 F7 (Or.inr ⟨(hw _ (List.mem_of_getElem? (i := 30) rfl)), rfl, hnm⟩) (hw _ (List.mem_of_getElem? (i := 11) rfl)) (ty := .int) (by decide) rfl rfl (g := (mkF m 11 #[.val (.ref o0), .val (.ref o1), .val (.int u2)] [(.int u2), (.ref o0)])) rfl rfl (hb hby d3_11)
  have Fw8 := F6.same W8
  have N8 := Fr.snoc X8 N4 ge0
  have Z8 : n0 ≤ h8.size := Nat.le_trans Z4 (wr_le W8)
  have K8 := Keep.wr K4 W8 (Or.inl (List.mem_of_getElem? (i := 0) rfl))
  refine OFin.go st8 ?_
  show OFin p e below _ (T8.setTop (mkF m 14 #[.val (.ref o0), .val (.ref o1), .val (.int u2)] []))
  have F9 := Fw4.other W8 (Or.inr (slot_ne (Or.inr (hw _ (List.mem_of_getElem? (i := 28) rfl))) (Or.inr (hw _ (List.mem_of_getElem? (i := 30) rfl))) (by decide) (t := (.array .byte)) (t' := .int) (by decide) (by decide)))
  exact finV X8 hx Bd.notSynchronized Bd.returns (hb hby d3_14) (by decide) (by decide) (by rw [e8]; exact ⟨rfl, N8, K8, F9, Fw8⟩)
theorem ef_rm2 (m : MethodId) (o0 : Addr) : entryFrame m #[(.ref o0)] 1 = mkF m 0 #[.val (.ref o0)] [] := by first | (simp [entryFrame, mkF, argsToLocals, Value.category]; done) | rfl
def Q_rm2 (Z : State) (o0 : Addr) (n : Nat) (zn : Int32) (f : Nat → Value) (h0 : Heap) (n0 : Nat) (v : Option Value) (h : Heap) (L : List Loc) : Prop := ∃ fr b, v = some (.ref fr) ∧ Fr n0 L ∧ Keep h0 h [] ∧ h0.size ≤ fr ∧ h0.size ≤ b ∧ fr ≠ b ∧ Exa Z h fr "com/example/cardbench/cardbench/Frame" ∧ Fld Z h fr "com/example/cardbench/cardbench/Frame" "bytes" "[B" (.ref b) ∧ Fld Z h fr "com/example/cardbench/cardbench/Frame" "bits" "I" (.int ((8 : Int32) * zn)) ∧ Ara Z h b .byte n f
theorem d2_0 : decode prog_18_method_2_code 0 = .ok (.new 8, 3) := by decide +kernel
theorem d2_3 : decode prog_18_method_2_code 3 = .ok (.dup, 1) := by decide +kernel
theorem d2_4 : decode prog_18_method_2_code 4 = .ok (.aload_n 0, 1) := by decide +kernel
theorem d2_5 : decode prog_18_method_2_code 5 = .ok (.invokevirtual 17, 3) := by decide +kernel
theorem d2_8 : decode prog_18_method_2_code 8 = .ok (.checkcast 18, 3) := by decide +kernel
theorem d2_11 : decode prog_18_method_2_code 11 = .ok (.bipush 8, 2) := by decide +kernel
theorem d2_13 : decode prog_18_method_2_code 13 = .ok (.aload_n 0, 1) := by decide +kernel
theorem d2_14 : decode prog_18_method_2_code 14 = .ok (.arraylength, 1) := by decide +kernel
theorem d2_15 : decode prog_18_method_2_code 15 = .ok (.imul, 1) := by decide +kernel
theorem pd_0 : parseMethodDescriptor "([BI)V" = some ⟨[(.array .byte), .int], none⟩ := by decide +kernel
theorem d2_16 : decode prog_18_method_2_code 16 = .ok (.invokespecial 22, 3) := by decide +kernel
theorem d2_19 : decode prog_18_method_2_code 19 = .ok (.areturn, 1) := by decide +kernel
set_option maxRecDepth 65536 in
set_option maxHeartbeats 40000000 in
theorem rm2 (l : Launch) (Z : State) (a0 : Array Value) (hw : ∀ d ∈ tables_1, d.before a0 Z = true) (ws : List Jvm.Cond) (o0 : Addr) (n : Nat) (zn : Int32) (f : Nat → Value) (h0 : Heap) (n0 : Nat) (Z0 : n0 ≤ h0.size) (Va : Ara Z h0 o0 .byte n f) (Ea : Exa Z h0 o0 "[B") (hfit : ∀ i, i < n → fits .byte (f i) = true) (hz : n.toInt32 = zn) (hn4 : n ≤ 4) :
    MetFree l (⟨"com/example/cardbench/cardbench/Frame", "of", "([B)Lcom/example/cardbench/cardbench/Frame;"⟩ : MethodName) (head1 (Jvm.Cond.code (⟨"com/example/cardbench/cardbench/Frame", "of", "([B)Lcom/example/cardbench/cardbench/Frame;"⟩ : MethodName) prog_18_method_2_code 1 (some (.object "com/example/cardbench/cardbench/Frame")) :: ws) ({ frames := 2, cells := 2, slots := 6, locals := 40 } : Room)) (fun a U => a = #[(.ref o0)] ∧ Z.Warmed39 U.vm ∧ U.heap = h0) (fun _ _ _ _ _ => True) (fun _ U o U' => ∃ v L, o = .returned v ∧ (Q_rm2 Z o0 n zn f h0 n0) v U'.heap L ∧ FrameEnd U o U' L ({ frames := 2, cells := 2, slots := 6, locals := 40 } : Room).cells ({ frames := 2, cells := 2, slots := 6, locals := 40 } : Room).slots) := by
  refine MetFree.of_bodySF (plainFor_of_name pn_1) hisR ?_
  intro p e s m args below meth c s₁ Bd hml0 hP hK
  obtain ⟨rfl, hZ, hh⟩ := hP
  have hx := Bd.exec
  have hby := Bd.bytes
  have hml : c.maxLocals = 1 := hml0
  have hown : s.vm.findClass "com/example/cardbench/cardbench/Frame" = some m.cls := findClass_of_methodNamed Bd.named
  have hnm := (name_of_methodNamed Bd.named Bd.method).1
  have X0 : Stand p l e ({ frames := 2, cells := 2, slots := 6, locals := 40 } : Room) s m #[(.ref o0)] below meth c s₁ [] 0 0 := Stand.of_body Bd
  have e0 : s₁.heap = h0 := by rw [← hh, Bd.state]; rfl
  have N0 := Fr.nil n0
  show OFin p e below (ORet (Q_rm2 Z o0 n zn f h0 n0) s ({ frames := 2, cells := 2, slots := 6, locals := 40 } : Room).cells ({ frames := 2, cells := 2, slots := 6, locals := 40 } : Room).slots) (s₁.setTop (entryFrame m #[(.ref o0)] 1))
  refine OFin.go (fun t k => castTop (ef_rm2 m o0) k) ?_
  have K0 := Keep.refl h0 []
  show OFin p e below (ORet (Q_rm2 Z o0 n zn f h0 n0) s ({ frames := 2, cells := 2, slots := 6, locals := 40 } : Room).cells ({ frames := 2, cells := 2, slots := 6, locals := 40 } : Room).slots) (s₁.setTop (mkF m 0 #[.val (.ref o0)] []))
  obtain ⟨T1, h1, X1, e1, E1, A1, D1, -, st1⟩ := newO X0 hx hZ hown (hw _ (List.mem_of_getElem? (i := 10) rfl)) (hw _ (List.mem_of_getElem? (i := 11) rfl)) (hw _ (List.mem_of_getElem? (i := 8) rfl)) e0 (g := (mkF m 0 #[.val (.ref o0)] [])) rfl (hb hby d2_0) (Nat.le_of_ble_eq_true rfl) (Nat.le_of_ble_eq_true rfl)
  obtain ⟨b1, g1⟩ : ∃ z, z = h0.size := ⟨_, rfl⟩
  rw [← g1] at A1 D1 st1
  have q2 : o0 ≠ b1 := up_lt Va.lt g1
  have ge1 : n0 ≤ b1 := Nat.le_trans Z0 (Nat.le_of_eq g1.symm)
  have Z1 : n0 ≤ h1.size := Nat.le_trans Z0 E1.1
  have sz1 : h0.size ≤ b1 := Nat.le_trans K0.1 (Nat.le_of_eq g1.symm)
  have K1 := Keep.ext K0 E1
  have F1_bytes : Fld Z h1 b1 "com/example/cardbench/cardbench/Frame" "bytes" "[B" .null := D1 (Or.inr (hw _ (List.mem_of_getElem? (i := 28) rfl))) (ty := (.array .byte)) (by decide)
  have F1_bits : Fld Z h1 b1 "com/example/cardbench/cardbench/Frame" "bits" "I" (.int (0 : Int32)) := D1 (Or.inr (hw _ (List.mem_of_getElem? (i := 30) rfl))) (ty := .int) (by decide)
  refine OFin.go st1 ?_
  show OFin p e below _ (T1.setTop (mkF m 3 #[.val (.ref o0)] [(.ref b1)]))
  have S3 : ∀ t, Steps p.tables e below (T1.setTop (mkF m 5 #[.val (.ref o0)] [(.ref o0), (.ref b1), (.ref b1)])) t → Steps p.tables e below (T1.setTop (mkF m 3 #[.val (.ref o0)] [(.ref b1)])) t := by
    intro t k
    show Steps p.tables e below (T1.setTop (mkF m 3 #[.val (.ref o0)] [(.ref b1)])) t
    refine XS.dup X1.here hx rfl (hb hby d2_3) rfl rfl ?_
    show Steps p.tables e below (T1.setTop (mkF m 4 #[.val (.ref o0)] [(.ref b1), (.ref b1)])) t
    refine XS.aloadN X1.here hx rfl (hb hby d2_4) rfl rfl ?_
    exact k
  refine OFin.go S3 ?_
  have F4 := Va.ext E1
  have F5 := Ea.ext E1
  obtain ⟨T6, h6, X6, e6, E6, A6, Q6, st6⟩ := clB X1 hx hZ hown (hw _ (List.mem_of_getElem? (i := 12) rfl)) (hw _ (List.mem_of_getElem? (i := 13) rfl)) (hw _ (List.mem_of_getElem? (i := 17) rfl)) (hw _ (List.mem_of_getElem? (i := 15) rfl)) (hw _ (List.mem_of_getElem? (i := 16) rfl)) (hw _ (List.mem_of_getElem? (i := 18) rfl)) e1 F4 F5 hfit (g := (mkF m 5 #[.val (.ref o0)] [(.ref o0), (.ref b1), (.ref b1)])) rfl (by rw [hml]; rfl) rfl (hb hby d2_5) (by decide) (W := 2) (by show 2 * 0 + _ ≤ _; exact Nat.le_of_eq rfl) (by decide) (cap := 4) hn4 (by decide) (by decide)
  obtain ⟨b6, g6⟩ : ∃ z, z = h1.size := ⟨_, rfl⟩
  rw [← g6] at A6 Q6 st6
  have q7 : o0 ≠ b6 := up_lt F4.lt g6
  have q8 : b1 ≠ b6 := up_lt A1.lt g6
  have ge6 : n0 ≤ b6 := Nat.le_trans Z1 (Nat.le_of_eq g6.symm)
  have Z6 : n0 ≤ h6.size := Nat.le_trans Z1 E6.1
  have sz6 : h0.size ≤ b6 := Nat.le_trans K1.1 (Nat.le_of_eq g6.symm)
  have K6 := Keep.ext K1 E6
  refine OFin.go st6 ?_
  show OFin p e below _ (T6.setTop (mkF m 8 #[.val (.ref o0)] [(.ref b6), (.ref b1), (.ref b1)]))
  obtain ⟨T9, X9, e9, st9⟩ := castY X6 hx hZ hown (hw _ (List.mem_of_getElem? (i := 19) rfl)) e6 (Ins.self Q6) (g := (mkF m 8 #[.val (.ref o0)] [(.ref b6), (.ref b1), (.ref b1)])) rfl rfl (hb hby d2_8)
  refine OFin.go st9 ?_
  show OFin p e below _ (T9.setTop (mkF m 11 #[.val (.ref o0)] [(.ref b6), (.ref b1), (.ref b1)]))
  have F10 := F4.ext E6
  have S11 : ∀ t, Steps p.tables e below (T9.setTop (mkF m 16 #[.val (.ref o0)] [(.int ((8 : Int32) * zn)), (.ref b6), (.ref b1), (.ref b1)])) t → Steps p.tables e below (T9.setTop (mkF m 11 #[.val (.ref o0)] [(.ref b6), (.ref b1), (.ref b1)])) t := by
    intro t k
    show Steps p.tables e below (T9.setTop (mkF m 11 #[.val (.ref o0)] [(.ref b6), (.ref b1), (.ref b1)])) t
    refine XS.bipush X9.here hx rfl (hb hby d2_11) ?_
    show Steps p.tables e below (T9.setTop (mkF m 13 #[.val (.ref o0)] [(.int (8 : Int32)), (.ref b6), (.ref b1), (.ref b1)])) t
    refine XS.aloadN X9.here hx rfl (hb hby d2_13) rfl rfl ?_
    show Steps p.tables e below (T9.setTop (mkF m 14 #[.val (.ref o0)] [(.ref o0), (.int (8 : Int32)), (.ref b6), (.ref b1), (.ref b1)])) t
    refine alen X9 hx hZ e9 F10 (z := zn) hz (g := (mkF m 14 #[.val (.ref o0)] [(.ref o0), (.int (8 : Int32)), (.ref b6), (.ref b1), (.ref b1)])) rfl rfl (hb hby d2_14) ?_
    show Steps p.tables e below (T9.setTop (mkF m 15 #[.val (.ref o0)] [(.int zn), (.int (8 : Int32)), (.ref b6), (.ref b1), (.ref b1)])) t
    refine XS.imul X9.here hx rfl (hb hby d2_15) rfl ?_
    exact k
  refine OFin.go S11 ?_
  have F13 := A1.ext E6
  have F14 := F1_bytes.ext E6
  have F15 := F1_bits.ext E6
  obtain ⟨_, T12, Lc12, X12, hQ12, st12⟩ := specQ X9 hx hZ (y := (⟨"com/example/cardbench/cardbench/Frame", "<init>", "([BI)V"⟩ : MethodName)) rfl hown (hw _ (List.mem_of_getElem? (i := 21) rfl)) (hw _ (List.mem_of_getElem? (i := 22) rfl)) (hw _ (List.mem_of_getElem? (i := 8) rfl)) (hw _ (List.mem_of_getElem? (i := 23) rfl)) (by decide) (a := b1) (argsL := [(.ref b6), (.int ((8 : Int32) * zn))]) (rest := [(.ref b1)]) (rm3 l Z a0 hw [] b1 b6 ((8 : Int32) * zn) h6 n0 Z6 ge1 F13 F14 F15) (W := 1) (by decide) (by decide) e9 (g := (mkF m 16 #[.val (.ref o0)] [(.int ((8 : Int32) * zn)), (.ref b6), (.ref b1), (.ref b1)])) rfl (by rw [hml]; rfl) (lenOf pd_0 rfl) rfl (by show 2 * 0 + _ ≤ _; exact Nat.le_of_eq rfl) (hb hby d2_16) (Nat.le_of_ble_eq_true rfl) (Nat.le_of_ble_eq_true rfl)
  obtain ⟨rfl, N12q, K12q, Fb12, Fi12⟩ := hQ12
  have Z12 : n0 ≤ T12.heap.size := Nat.le_trans Z6 K12q.1
  have K12 := Keep.trans K6 K12q (allS (Or.inr sz1) all0)
  have N12 := Fr.app N0 N12q
  refine OFin.go st12 ?_
  show OFin p e below _ (T12.setTop (mkF m 19 #[.val (.ref o0)] [(.ref b1)]))
  have F16 := F13.keep K12q
  have F17 := A6.keep K12q (ninS (Ne.symm q8) nin0)
  exact finA X12 hx Bd.notSynchronized rfl Bd.returns rfl (hb hby d2_19) (by decide) (by decide) (by exact ⟨b1, b6, rfl, N12, K12, sz1, sz6, q8, F16, Fb12, Fi12, F17⟩)
theorem ef_rm5 (m : MethodId) (o0 : Addr) : entryFrame m #[(.ref o0)] 1 = mkF m 0 #[.val (.ref o0)] [] := by first | (simp [entryFrame, mkF, argsToLocals, Value.category]; done) | rfl
def Q_rm5 (Z : State) (o0 : Addr) (b : Addr) (n : Nat) (zn : Int32) (f : Nat → Value) (h0 : Heap) (n0 : Nat) (v : Option Value) (h : Heap) (L : List Loc) : Prop := v = some (.int zn) ∧ Fr n0 L ∧ h = h0
theorem d5_0 : decode prog_18_method_5_code 0 = .ok (.aload_n 0, 1) := by decide +kernel
theorem d5_1 : decode prog_18_method_5_code 1 = .ok (.getfield 7, 3) := by decide +kernel
theorem d5_4 : decode prog_18_method_5_code 4 = .ok (.arraylength, 1) := by decide +kernel
theorem d5_5 : decode prog_18_method_5_code 5 = .ok (.ireturn, 1) := by decide +kernel
set_option maxRecDepth 65536 in
set_option maxHeartbeats 40000000 in
theorem rm5 (l : Launch) (Z : State) (a0 : Array Value) (hw : ∀ d ∈ tables_1, d.before a0 Z = true) (ws : List Jvm.Cond) (o0 : Addr) (b : Addr) (n : Nat) (zn : Int32) (f : Nat → Value) (h0 : Heap) (n0 : Nat) (Z0 : n0 ≤ h0.size) (Fb : Fld Z h0 o0 "com/example/cardbench/cardbench/Frame" "bytes" "[B" (.ref b)) (Va : Ara Z h0 b .byte n f) (hz : n.toInt32 = zn) :
    MetFree l (⟨"com/example/cardbench/cardbench/Frame", "length", "()I"⟩ : MethodName) (head1 (Jvm.Cond.code (⟨"com/example/cardbench/cardbench/Frame", "length", "()I"⟩ : MethodName) prog_18_method_5_code 1 (some .int) :: ws) ({ frames := 0, cells := 0, slots := 0, locals := 0 } : Room)) (fun a U => a = #[(.ref o0)] ∧ Z.Warmed39 U.vm ∧ U.heap = h0) (fun _ _ _ _ _ => True) (fun _ U o U' => ∃ v L, o = .returned v ∧ (Q_rm5 Z o0 b n zn f h0 n0) v U'.heap L ∧ FrameEnd U o U' L ({ frames := 0, cells := 0, slots := 0, locals := 0 } : Room).cells ({ frames := 0, cells := 0, slots := 0, locals := 0 } : Room).slots) := by
  refine MetFree.of_bodySF (plainFor_of_name pn_1) hisR ?_
  intro p e s m args below meth c s₁ Bd hml0 hP hK
  obtain ⟨rfl, hZ, hh⟩ := hP
  have hx := Bd.exec
  have hby := Bd.bytes
  have hml : c.maxLocals = 1 := hml0
  have hown : s.vm.findClass "com/example/cardbench/cardbench/Frame" = some m.cls := findClass_of_methodNamed Bd.named
  have hnm := (name_of_methodNamed Bd.named Bd.method).1
  have X0 : Stand p l e ({ frames := 0, cells := 0, slots := 0, locals := 0 } : Room) s m #[(.ref o0)] below meth c s₁ [] 0 0 := Stand.of_body Bd
  have e0 : s₁.heap = h0 := by rw [← hh, Bd.state]; rfl
  have N0 := Fr.nil n0
  show OFin p e below (ORet (Q_rm5 Z o0 b n zn f h0 n0) s ({ frames := 0, cells := 0, slots := 0, locals := 0 } : Room).cells ({ frames := 0, cells := 0, slots := 0, locals := 0 } : Room).slots) (s₁.setTop (entryFrame m #[(.ref o0)] 1))
  refine OFin.go (fun t k => castTop (ef_rm5 m o0) k) ?_
  show OFin p e below (ORet (Q_rm5 Z o0 b n zn f h0 n0) s ({ frames := 0, cells := 0, slots := 0, locals := 0 } : Room).cells ({ frames := 0, cells := 0, slots := 0, locals := 0 } : Room).slots) (s₁.setTop (mkF m 0 #[.val (.ref o0)] []))
  have S1 : ∀ t, Steps p.tables e below (s₁.setTop (mkF m 1 #[.val (.ref o0)] [(.ref o0)])) t → Steps p.tables e below (s₁.setTop (mkF m 0 #[.val (.ref o0)] [])) t := by
    intro t k
    show Steps p.tables e below (s₁.setTop (mkF m 0 #[.val (.ref o0)] [])) t
    refine XS.aloadN X0.here hx rfl (hb hby d5_0) rfl rfl ?_
    exact k
  refine OFin.go S1 ?_
  obtain ⟨T2, X2, e2, st2⟩ := getF X0 hx hZ hown (host := "") (Or.inl (hw _ (List.mem_of_getElem? (i := 27) rfl))) Via.refl e0 Fb (g := (mkF m 1 #[.val (.ref o0)] [(.ref o0)])) rfl rfl (hb hby d5_1)
  refine OFin.go st2 ?_
  show OFin p e below _ (T2.setTop (mkF m 4 #[.val (.ref o0)] [(.ref b)]))
  have S3 : ∀ t, Steps p.tables e below (T2.setTop (mkF m 5 #[.val (.ref o0)] [(.int zn)])) t → Steps p.tables e below (T2.setTop (mkF m 4 #[.val (.ref o0)] [(.ref b)])) t := by
    intro t k
    show Steps p.tables e below (T2.setTop (mkF m 4 #[.val (.ref o0)] [(.ref b)])) t
    refine alen X2 hx hZ e2 Va (z := zn) hz (g := (mkF m 4 #[.val (.ref o0)] [(.ref b)])) rfl rfl (hb hby d5_4) ?_
    exact k
  refine OFin.go S3 ?_
  exact finI X2 hx Bd.notSynchronized Bd.returns (hb hby d5_5) (by decide) (by decide) (⟨rfl, N0, e2⟩)
theorem ef_rm6 (m : MethodId) (o0 : Addr) : entryFrame m #[(.ref o0)] 1 = mkF m 0 #[.val (.ref o0)] [] := by first | (simp [entryFrame, mkF, argsToLocals, Value.category]; done) | rfl
def Q_rm6 (Z : State) (o0 : Addr) (bt : Int32) (h0 : Heap) (n0 : Nat) (v : Option Value) (h : Heap) (L : List Loc) : Prop := v = some (.int bt) ∧ Fr n0 L ∧ h = h0
theorem d6_0 : decode prog_18_method_6_code 0 = .ok (.aload_n 0, 1) := by decide +kernel
theorem d6_1 : decode prog_18_method_6_code 1 = .ok (.getfield 13, 3) := by decide +kernel
theorem d6_4 : decode prog_18_method_6_code 4 = .ok (.ireturn, 1) := by decide +kernel
set_option maxRecDepth 65536 in
set_option maxHeartbeats 40000000 in
theorem rm6 (l : Launch) (Z : State) (a0 : Array Value) (hw : ∀ d ∈ tables_1, d.before a0 Z = true) (ws : List Jvm.Cond) (o0 : Addr) (bt : Int32) (h0 : Heap) (n0 : Nat) (Z0 : n0 ≤ h0.size) (Fi : Fld Z h0 o0 "com/example/cardbench/cardbench/Frame" "bits" "I" (.int bt)) :
    MetFree l (⟨"com/example/cardbench/cardbench/Frame", "bits", "()I"⟩ : MethodName) (head1 (Jvm.Cond.code (⟨"com/example/cardbench/cardbench/Frame", "bits", "()I"⟩ : MethodName) prog_18_method_6_code 1 (some .int) :: ws) ({ frames := 0, cells := 0, slots := 0, locals := 0 } : Room)) (fun a U => a = #[(.ref o0)] ∧ Z.Warmed39 U.vm ∧ U.heap = h0) (fun _ _ _ _ _ => True) (fun _ U o U' => ∃ v L, o = .returned v ∧ (Q_rm6 Z o0 bt h0 n0) v U'.heap L ∧ FrameEnd U o U' L ({ frames := 0, cells := 0, slots := 0, locals := 0 } : Room).cells ({ frames := 0, cells := 0, slots := 0, locals := 0 } : Room).slots) := by
  refine MetFree.of_bodySF (plainFor_of_name pn_1) hisR ?_
  intro p e s m args below meth c s₁ Bd hml0 hP hK
  obtain ⟨rfl, hZ, hh⟩ := hP
  have hx := Bd.exec
  have hby := Bd.bytes
  have hml : c.maxLocals = 1 := hml0
  have hown : s.vm.findClass "com/example/cardbench/cardbench/Frame" = some m.cls := findClass_of_methodNamed Bd.named
  have hnm := (name_of_methodNamed Bd.named Bd.method).1
  have X0 : Stand p l e ({ frames := 0, cells := 0, slots := 0, locals := 0 } : Room) s m #[(.ref o0)] below meth c s₁ [] 0 0 := Stand.of_body Bd
  have e0 : s₁.heap = h0 := by rw [← hh, Bd.state]; rfl
  have N0 := Fr.nil n0
  show OFin p e below (ORet (Q_rm6 Z o0 bt h0 n0) s ({ frames := 0, cells := 0, slots := 0, locals := 0 } : Room).cells ({ frames := 0, cells := 0, slots := 0, locals := 0 } : Room).slots) (s₁.setTop (entryFrame m #[(.ref o0)] 1))
  refine OFin.go (fun t k => castTop (ef_rm6 m o0) k) ?_
  show OFin p e below (ORet (Q_rm6 Z o0 bt h0 n0) s ({ frames := 0, cells := 0, slots := 0, locals := 0 } : Room).cells ({ frames := 0, cells := 0, slots := 0, locals := 0 } : Room).slots) (s₁.setTop (mkF m 0 #[.val (.ref o0)] []))
  have S1 : ∀ t, Steps p.tables e below (s₁.setTop (mkF m 1 #[.val (.ref o0)] [(.ref o0)])) t → Steps p.tables e below (s₁.setTop (mkF m 0 #[.val (.ref o0)] [])) t := by
    intro t k
    show Steps p.tables e below (s₁.setTop (mkF m 0 #[.val (.ref o0)] [])) t
    refine XS.aloadN X0.here hx rfl (hb hby d6_0) rfl rfl ?_
    exact k
  refine OFin.go S1 ?_
  obtain ⟨T2, X2, e2, st2⟩ := getF X0 hx hZ hown (host := "") (Or.inl (hw _ (List.mem_of_getElem? (i := 29) rfl))) Via.refl e0 Fi (g := (mkF m 1 #[.val (.ref o0)] [(.ref o0)])) rfl rfl (hb hby d6_1)
  refine OFin.go st2 ?_
  show OFin p e below _ (T2.setTop (mkF m 4 #[.val (.ref o0)] [(.int bt)]))
  exact finI X2 hx Bd.notSynchronized Bd.returns (hb hby d6_4) (by decide) (by decide) (⟨rfl, N0, e2⟩)
theorem ef_rm7 (m : MethodId) (o0 : Addr) : entryFrame m #[(.ref o0)] 1 = mkF m 0 #[.val (.ref o0)] [] := by first | (simp [entryFrame, mkF, argsToLocals, Value.category]; done) | rfl
def Q_rm7 (Z : State) (o0 : Addr) (b : Addr) (n : Nat) (zn : Int32) (f : Nat → Value) (bt : Int32) (h0 : Heap) (n0 : Nat) (v : Option Value) (h : Heap) (L : List Loc) : Prop := v = some (.int zn) ∧ Fr n0 L ∧ h = h0
theorem d7_0 : decode prog_18_method_7_code 0 = .ok (.aload_n 0, 1) := by decide +kernel
theorem d7_1 : decode prog_18_method_7_code 1 = .ok (.getfield 13, 3) := by decide +kernel
theorem d7_4 : decode prog_18_method_7_code 4 = .ok (.bipush 7, 2) := by decide +kernel
theorem d7_6 : decode prog_18_method_7_code 6 = .ok (.if_icmp .ne 7, 3) := by decide +kernel
theorem d7_13 : decode prog_18_method_7_code 13 = .ok (.aload_n 0, 1) := by decide +kernel
theorem d7_14 : decode prog_18_method_7_code 14 = .ok (.getfield 7, 3) := by decide +kernel
theorem d7_17 : decode prog_18_method_7_code 17 = .ok (.arraylength, 1) := by decide +kernel
theorem d7_18 : decode prog_18_method_7_code 18 = .ok (.ireturn, 1) := by decide +kernel
set_option maxRecDepth 65536 in
set_option maxHeartbeats 40000000 in
theorem rm7 (l : Launch) (Z : State) (a0 : Array Value) (hw : ∀ d ∈ tables_1, d.before a0 Z = true) (ws : List Jvm.Cond) (o0 : Addr) (b : Addr) (n : Nat) (zn : Int32) (f : Nat → Value) (bt : Int32) (h0 : Heap) (n0 : Nat) (Z0 : n0 ≤ h0.size) (Fb : Fld Z h0 o0 "com/example/cardbench/cardbench/Frame" "bytes" "[B" (.ref b)) (Va : Ara Z h0 b .byte n f) (hz : n.toInt32 = zn) (Fi : Fld Z h0 o0 "com/example/cardbench/cardbench/Frame" "bits" "I" (.int bt)) (h7 : ¬ (bt = (7 : Int32))) :
    MetFree l (⟨"com/example/cardbench/cardbench/Frame", "parityBits", "()I"⟩ : MethodName) (head1 (Jvm.Cond.code (⟨"com/example/cardbench/cardbench/Frame", "parityBits", "()I"⟩ : MethodName) prog_18_method_7_code 1 (some .int) :: ws) ({ frames := 0, cells := 0, slots := 0, locals := 0 } : Room)) (fun a U => a = #[(.ref o0)] ∧ Z.Warmed39 U.vm ∧ U.heap = h0) (fun _ _ _ _ _ => True) (fun _ U o U' => ∃ v L, o = .returned v ∧ (Q_rm7 Z o0 b n zn f bt h0 n0) v U'.heap L ∧ FrameEnd U o U' L ({ frames := 0, cells := 0, slots := 0, locals := 0 } : Room).cells ({ frames := 0, cells := 0, slots := 0, locals := 0 } : Room).slots) := by
  refine MetFree.of_bodySF (plainFor_of_name pn_1) hisR ?_
  intro p e s m args below meth c s₁ Bd hml0 hP hK
  obtain ⟨rfl, hZ, hh⟩ := hP
  have hx := Bd.exec
  have hby := Bd.bytes
  have hml : c.maxLocals = 1 := hml0
  have hown : s.vm.findClass "com/example/cardbench/cardbench/Frame" = some m.cls := findClass_of_methodNamed Bd.named
  have hnm := (name_of_methodNamed Bd.named Bd.method).1
  have X0 : Stand p l e ({ frames := 0, cells := 0, slots := 0, locals := 0 } : Room) s m #[(.ref o0)] below meth c s₁ [] 0 0 := Stand.of_body Bd
  have e0 : s₁.heap = h0 := by rw [← hh, Bd.state]; rfl
  have N0 := Fr.nil n0
  show OFin p e below (ORet (Q_rm7 Z o0 b n zn f bt h0 n0) s ({ frames := 0, cells := 0, slots := 0, locals := 0 } : Room).cells ({ frames := 0, cells := 0, slots := 0, locals := 0 } : Room).slots) (s₁.setTop (entryFrame m #[(.ref o0)] 1))
  refine OFin.go (fun t k => castTop (ef_rm7 m o0) k) ?_
  show OFin p e below (ORet (Q_rm7 Z o0 b n zn f bt h0 n0) s ({ frames := 0, cells := 0, slots := 0, locals := 0 } : Room).cells ({ frames := 0, cells := 0, slots := 0, locals := 0 } : Room).slots) (s₁.setTop (mkF m 0 #[.val (.ref o0)] []))
  have S1 : ∀ t, Steps p.tables e below (s₁.setTop (mkF m 1 #[.val (.ref o0)] [(.ref o0)])) t → Steps p.tables e below (s₁.setTop (mkF m 0 #[.val (.ref o0)] [])) t := by
    intro t k
    show Steps p.tables e below (s₁.setTop (mkF m 0 #[.val (.ref o0)] [])) t
    refine XS.aloadN X0.here hx rfl (hb hby d7_0) rfl rfl ?_
    exact k
  refine OFin.go S1 ?_
  obtain ⟨T2, X2, e2, st2⟩ := getF X0 hx hZ hown (host := "") (Or.inl (hw _ (List.mem_of_getElem? (i := 29) rfl))) Via.refl e0 Fi (g := (mkF m 1 #[.val (.ref o0)] [(.ref o0)])) rfl rfl (hb hby d7_1)
  refine OFin.go st2 ?_
  show OFin p e below _ (T2.setTop (mkF m 4 #[.val (.ref o0)] [(.int bt)]))
  have S3 : ∀ t, Steps p.tables e below (T2.setTop (mkF m 6 #[.val (.ref o0)] [(.int (7 : Int32)), (.int bt)])) t → Steps p.tables e below (T2.setTop (mkF m 4 #[.val (.ref o0)] [(.int bt)])) t := by
    intro t k
    show Steps p.tables e below (T2.setTop (mkF m 4 #[.val (.ref o0)] [(.int bt)])) t
    refine XS.bipush X2.here hx rfl (hb hby d7_4) ?_
    exact k
  refine OFin.go S3 ?_
  have S4 : ∀ t, Steps p.tables e below (T2.setTop (mkF m 13 #[.val (.ref o0)] [])) t → Steps p.tables e below (T2.setTop (mkF m 6 #[.val (.ref o0)] [(.int (7 : Int32)), (.int bt)])) t := by
    intro t k
    show Steps p.tables e below (T2.setTop (mkF m 6 #[.val (.ref o0)] [(.int (7 : Int32)), (.int bt)])) t
    refine XS.icmpYes X2.here hx rfl (pc0 := 6) (pc' := 13) rfl (hb hby d7_6) rfl (feq h7).2 (by decide) (by decide) ?_
    exact k
  refine OFin.go S4 ?_
  have S5 : ∀ t, Steps p.tables e below (T2.setTop (mkF m 14 #[.val (.ref o0)] [(.ref o0)])) t → Steps p.tables e below (T2.setTop (mkF m 13 #[.val (.ref o0)] [])) t := by
    intro t k
    show Steps p.tables e below (T2.setTop (mkF m 13 #[.val (.ref o0)] [])) t
    refine XS.aloadN X2.here hx rfl (hb hby d7_13) rfl rfl ?_
    exact k
  refine OFin.go S5 ?_
  obtain ⟨T6, X6, e6, st6⟩ := getF X2 hx hZ hown (host := "") (Or.inl (hw _ (List.mem_of_getElem? (i := 27) rfl))) Via.refl e2 Fb (g := (mkF m 14 #[.val (.ref o0)] [(.ref o0)])) rfl rfl (hb hby d7_14)
  refine OFin.go st6 ?_
  show OFin p e below _ (T6.setTop (mkF m 17 #[.val (.ref o0)] [(.ref b)]))
  have S7 : ∀ t, Steps p.tables e below (T6.setTop (mkF m 18 #[.val (.ref o0)] [(.int zn)])) t → Steps p.tables e below (T6.setTop (mkF m 17 #[.val (.ref o0)] [(.ref b)])) t := by
    intro t k
    show Steps p.tables e below (T6.setTop (mkF m 17 #[.val (.ref o0)] [(.ref b)])) t
    refine alen X6 hx hZ e6 Va (z := zn) hz (g := (mkF m 17 #[.val (.ref o0)] [(.ref b)])) rfl rfl (hb hby d7_17) ?_
    exact k
  refine OFin.go S7 ?_
  exact finI X6 hx Bd.notSynchronized Bd.returns (hb hby d7_18) (by decide) (by decide) (⟨rfl, N0, e6⟩)
theorem ef_rm8 (m : MethodId) (o0 : Addr) (u1 : Int32) : entryFrame m #[(.ref o0), (.int u1)] 2 = mkF m 0 #[.val (.ref o0), .val (.int u1)] [] := by first | (simp [entryFrame, mkF, argsToLocals, Value.category]; done) | rfl
def Q_rm8 (Z : State) (o0 : Addr) (u1 : Int32) (b : Addr) (n : Nat) (f : Nat → Value) (x : Int32) (h0 : Heap) (n0 : Nat) (v : Option Value) (h : Heap) (L : List Loc) : Prop := v = some (.int (x &&& (255 : Int32))) ∧ Fr n0 L ∧ h = h0
theorem d8_0 : decode prog_18_method_9_code 0 = .ok (.aload_n 0, 1) := by decide +kernel
theorem d8_1 : decode prog_18_method_9_code 1 = .ok (.getfield 7, 3) := by decide +kernel
theorem d8_4 : decode prog_18_method_9_code 4 = .ok (.iload_n 1, 1) := by decide +kernel
theorem d8_5 : decode prog_18_method_9_code 5 = .ok (.baload, 1) := by decide +kernel
theorem d8_6 : decode prog_18_method_9_code 6 = .ok (.sipush 255, 3) := by decide +kernel
theorem d8_9 : decode prog_18_method_9_code 9 = .ok (.iand, 1) := by decide +kernel
theorem d8_10 : decode prog_18_method_9_code 10 = .ok (.ireturn, 1) := by decide +kernel
set_option maxRecDepth 65536 in
set_option maxHeartbeats 40000000 in
theorem rm8 (l : Launch) (Z : State) (a0 : Array Value) (hw : ∀ d ∈ tables_1, d.before a0 Z = true) (ws : List Jvm.Cond) (o0 : Addr) (u1 : Int32) (b : Addr) (n : Nat) (f : Nat → Value) (x : Int32) (h0 : Heap) (n0 : Nat) (Z0 : n0 ≤ h0.size) (Fb : Fld Z h0 o0 "com/example/cardbench/cardbench/Frame" "bytes" "[B" (.ref b)) (Va : Ara Z h0 b .byte n f) (h0i : ¬ u1 < 0) (hi : u1.toNatClampNeg < n) (hx0 : f u1.toNatClampNeg = .int x) :
    MetFree l (⟨"com/example/cardbench/cardbench/Frame", "get", "(I)I"⟩ : MethodName) (head1 (Jvm.Cond.code (⟨"com/example/cardbench/cardbench/Frame", "get", "(I)I"⟩ : MethodName) prog_18_method_9_code 2 (some .int) :: ws) ({ frames := 0, cells := 0, slots := 0, locals := 0 } : Room)) (fun a U => a = #[(.ref o0), (.int u1)] ∧ Z.Warmed39 U.vm ∧ U.heap = h0) (fun _ _ _ _ _ => True) (fun _ U o U' => ∃ v L, o = .returned v ∧ (Q_rm8 Z o0 u1 b n f x h0 n0) v U'.heap L ∧ FrameEnd U o U' L ({ frames := 0, cells := 0, slots := 0, locals := 0 } : Room).cells ({ frames := 0, cells := 0, slots := 0, locals := 0 } : Room).slots) := by
  refine MetFree.of_bodySF (plainFor_of_name pn_1) hisR ?_
  intro p e s m args below meth c s₁ Bd hml0 hP hK
  obtain ⟨rfl, hZ, hh⟩ := hP
  have hx := Bd.exec
  have hby := Bd.bytes
  have hml : c.maxLocals = 2 := hml0
  have hown : s.vm.findClass "com/example/cardbench/cardbench/Frame" = some m.cls := findClass_of_methodNamed Bd.named
  have hnm := (name_of_methodNamed Bd.named Bd.method).1
  have X0 : Stand p l e ({ frames := 0, cells := 0, slots := 0, locals := 0 } : Room) s m #[(.ref o0), (.int u1)] below meth c s₁ [] 0 0 := Stand.of_body Bd
  have e0 : s₁.heap = h0 := by rw [← hh, Bd.state]; rfl
  have N0 := Fr.nil n0
  show OFin p e below (ORet (Q_rm8 Z o0 u1 b n f x h0 n0) s ({ frames := 0, cells := 0, slots := 0, locals := 0 } : Room).cells ({ frames := 0, cells := 0, slots := 0, locals := 0 } : Room).slots) (s₁.setTop (entryFrame m #[(.ref o0), (.int u1)] 2))
  refine OFin.go (fun t k => castTop (ef_rm8 m o0 u1) k) ?_
  show OFin p e below (ORet (Q_rm8 Z o0 u1 b n f x h0 n0) s ({ frames := 0, cells := 0, slots := 0, locals := 0 } : Room).cells ({ frames := 0, cells := 0, slots := 0, locals := 0 } : Room).slots) (s₁.setTop (mkF m 0 #[.val (.ref o0), .val (.int u1)] []))
  have S1 : ∀ t, Steps p.tables e below (s₁.setTop (mkF m 1 #[.val (.ref o0), .val (.int u1)] [(.ref o0)])) t → Steps p.tables e below (s₁.setTop (mkF m 0 #[.val (.ref o0), .val (.int u1)] [])) t := by
    intro t k
    show Steps p.tables e below (s₁.setTop (mkF m 0 #[.val (.ref o0), .val (.int u1)] [])) t
    refine XS.aloadN X0.here hx rfl (hb hby d8_0) rfl rfl ?_
    exact k
  refine OFin.go S1 ?_
  obtain ⟨T2, X2, e2, st2⟩ := getF X0 hx hZ hown (host := "") (Or.inl (hw _ (List.mem_of_getElem? (i := 27) rfl))) Via.refl e0 Fb (g := (mkF m 1 #[.val (.ref o0), .val (.int u1)] [(.ref o0)])) rfl rfl (hb hby d8_1)
  refine OFin.go st2 ?_
  show OFin p e below _ (T2.setTop (mkF m 4 #[.val (.ref o0), .val (.int u1)] [(.ref b)]))
  have S3 : ∀ t, Steps p.tables e below (T2.setTop (mkF m 10 #[.val (.ref o0), .val (.int u1)] [(.int (x &&& (255 : Int32)))])) t → Steps p.tables e below (T2.setTop (mkF m 4 #[.val (.ref o0), .val (.int u1)] [(.ref b)])) t := by
    intro t k
    show Steps p.tables e below (T2.setTop (mkF m 4 #[.val (.ref o0), .val (.int u1)] [(.ref b)])) t
    refine XS.iloadN X2.here hx rfl (hb hby d8_4) rfl ?_
    show Steps p.tables e below (T2.setTop (mkF m 5 #[.val (.ref o0), .val (.int u1)] [(.int u1), (.ref b)])) t
    refine rdB X2 hx hZ e2 Va (i := u1.toNatClampNeg) h0i rfl hi (x := (.int x)) hx0 (g := (mkF m 5 #[.val (.ref o0), .val (.int u1)] [(.int u1), (.ref b)])) rfl rfl (hb hby d8_5) ?_
    show Steps p.tables e below (T2.setTop (mkF m 6 #[.val (.ref o0), .val (.int u1)] [(.int x)])) t
    refine XS.sipush X2.here hx rfl (hb hby d8_6) ?_
    show Steps p.tables e below (T2.setTop (mkF m 9 #[.val (.ref o0), .val (.int u1)] [(.int (255 : Int32)), (.int x)])) t
    refine XS.iand X2.here hx rfl (hb hby d8_9) rfl ?_
    exact k
  refine OFin.go S3 ?_
  exact finI X2 hx Bd.notSynchronized Bd.returns (hb hby d8_10) (by decide) (by decide) (⟨rfl, N0, e2⟩)
theorem own_k (n : Int32) {z : Int32} (h : z = ((n &&& (2147483647 : Int32)) % (5 : Int32))) : z = (0 : Int32) ∨ z = (1 : Int32) ∨ z = (2 : Int32) ∨ z = (3 : Int32) ∨ z = (4 : Int32) := by
  have h1 := (c_iremV (n &&& (2147483647 : Int32)) (5 : Int32)).1 (c_and n (2147483647 : Int32) (by decide)).1 (by decide)
  have h3 := h1.1; have h4 := h1.2.1
  rw [← h] at h3 h4
  simp only [Int32.reduceToInt] at h4
  simp only [← Int32.toInt_inj, Int32.reduceToInt]
  omega
theorem ef_rm0 (m : MethodId) (u0 : Int32) (u1 : Int32) (u2 : Int32) (u3 : Int32) (u4 : Int32) : entryFrame m #[(.int u0), (.int u1), (.int u2), (.int u3), (.int u4)] maxLocals = mkF m 0 #[.val (.int u0), .val (.int u1), .val (.int u2), .val (.int u3), .val (.int u4), .unset, .unset, .unset, .unset] [] := by first | (simp [entryFrame, mkF, argsToLocals, Value.category, maxLocals]; done) | rfl
def Q_rm0 (Z : State) (u0 : Int32) (u1 : Int32) (u2 : Int32) (u3 : Int32) (u4 : Int32)  (h0 : Heap) (n0 : Nat) (v : Option Value) (h : Heap) (L : List Loc) : Prop := v = some (.int (1 : Int32)) ∧ Fr n0 L
theorem pd_1 : parseMethodDescriptor "(IIIII)[B" = some ⟨[.int, .int, .int, .int, .int], some (.array .byte)⟩ := by decide +kernel
theorem pd_2 : parseMethodDescriptor "([B)Lcom/example/cardbench/cardbench/Frame;" = some ⟨[(.array .byte)], some (.object "com/example/cardbench/cardbench/Frame")⟩ := by decide +kernel
theorem pd_3 : parseMethodDescriptor "()I" = some ⟨[], some .int⟩ := by decide +kernel
theorem pd_4 : parseMethodDescriptor "(I)I" = some ⟨[.int], some .int⟩ := by decide +kernel
set_option maxRecDepth 65536 in
set_option maxHeartbeats 40000000 in
theorem rm0 (l : Launch) (Z : State) (a0 : Array Value) (hw : ∀ d ∈ tables_1, d.before a0 Z = true) (ws : List Jvm.Cond) (u0 : Int32) (u1 : Int32) (u2 : Int32) (u3 : Int32) (u4 : Int32)  (h0 : Heap) (n0 : Nat) (Z0 : n0 ≤ h0.size)  :
    MetFree l x (head1 (Jvm.Cond.code x code maxLocals ret :: ws) room_1) (fun a U => a = #[(.int u0), (.int u1), (.int u2), (.int u3), (.int u4)] ∧ Z.Warmed39 U.vm ∧ U.heap = h0) (fun _ _ _ _ _ => True) (fun _ U o U' => ∃ v L, o = .returned v ∧ (Q_rm0 Z u0 u1 u2 u3 u4 h0 n0) v U'.heap L ∧ FrameEnd U o U' L 16 128) := by
  refine MetFree.of_bodySF (plainFor_of_name pn_0) hisR ?_
  intro p e s m args below meth c s₁ Bd hml0 hP hK
  obtain ⟨rfl, hZ, hh⟩ := hP
  have hx := Bd.exec
  have hby := Bd.bytes
  have hml : c.maxLocals = 9 := hml0
  have hown : s.vm.findClass "com/example/cardbench/cardbench/FrameOfPinLaw" = some m.cls := findClass_of_methodNamed Bd.named
  have hnm := (name_of_methodNamed Bd.named Bd.method).1
  have X0 : Stand p l e room_1 s m #[(.int u0), (.int u1), (.int u2), (.int u3), (.int u4)] below meth c s₁ [] 0 0 := Stand.of_body Bd
  have e0 : s₁.heap = h0 := by rw [← hh, Bd.state]; rfl
  have N0 := Fr.nil n0
  show OFin p e below (ORet (Q_rm0 Z u0 u1 u2 u3 u4 h0 n0) s 16 128) (s₁.setTop (entryFrame m #[(.int u0), (.int u1), (.int u2), (.int u3), (.int u4)] maxLocals))
  refine OFin.go (fun t k => castTop (ef_rm0 m u0 u1 u2 u3 u4) k) ?_
  show OFin p e below (ORet (Q_rm0 Z u0 u1 u2 u3 u4 h0 n0) s 16 128) (s₁.setTop (mkF m 0 #[.val (.int u0), .val (.int u1), .val (.int u2), .val (.int u3), .val (.int u4), .unset, .unset, .unset, .unset] []))
  have S1 : ∀ t, Steps p.tables e below (s₁.setTop (mkF m 8 #[.val (.int u0), .val (.int u1), .val (.int u2), .val (.int u3), .val (.int u4), .val (.int ((u0 &&& (2147483647 : Int32)) % (5 : Int32))), .unset, .unset, .unset] [])) t → Steps p.tables e below (s₁.setTop (mkF m 0 #[.val (.int u0), .val (.int u1), .val (.int u2), .val (.int u3), .val (.int u4), .unset, .unset, .unset, .unset] [])) t := by
    intro t k
    show Steps p.tables e below (s₁.setTop (mkF m 0 #[.val (.int u0), .val (.int u1), .val (.int u2), .val (.int u3), .val (.int u4), .unset, .unset, .unset, .unset] [])) t
    refine XS.iloadN X0.here hx rfl (hb hby at_0) rfl ?_
    show Steps p.tables e below (s₁.setTop (mkF m 1 #[.val (.int u0), .val (.int u1), .val (.int u2), .val (.int u3), .val (.int u4), .unset, .unset, .unset, .unset] [(.int u0)])) t
    refine X0.ldcInt hx hown (mvT hZ (hw _ (List.mem_of_getElem? (i := 0) rfl))) (g := (mkF m 1 #[.val (.int u0), .val (.int u1), .val (.int u2), .val (.int u3), .val (.int u4), .unset, .unset, .unset, .unset] [(.int u0)])) rfl (hb hby at_1) _ ?_
    show Steps p.tables e below (s₁.setTop (mkF m 3 #[.val (.int u0), .val (.int u1), .val (.int u2), .val (.int u3), .val (.int u4), .unset, .unset, .unset, .unset] [(.int (2147483647 : Int32)), (.int u0)])) t
    refine XS.iand X0.here hx rfl (hb hby at_3) rfl ?_
    show Steps p.tables e below (s₁.setTop (mkF m 4 #[.val (.int u0), .val (.int u1), .val (.int u2), .val (.int u3), .val (.int u4), .unset, .unset, .unset, .unset] [(.int (u0 &&& (2147483647 : Int32)))])) t
    refine XS.iconst X0.here hx rfl (hb hby at_4) ?_
    show Steps p.tables e below (s₁.setTop (mkF m 5 #[.val (.int u0), .val (.int u1), .val (.int u2), .val (.int u3), .val (.int u4), .unset, .unset, .unset, .unset] [(.int (5 : Int32)), (.int (u0 &&& (2147483647 : Int32)))])) t
    refine iremM X0 hx rfl (hb hby at_5) rfl (by decide) ?_
    show Steps p.tables e below (s₁.setTop (mkF m 6 #[.val (.int u0), .val (.int u1), .val (.int u2), .val (.int u3), .val (.int u4), .unset, .unset, .unset, .unset] [(.int ((u0 &&& (2147483647 : Int32)) % (5 : Int32)))])) t
    refine XS.istore X0.here hx rfl (hb hby at_6) rfl (l' := #[.val (.int u0), .val (.int u1), .val (.int u2), .val (.int u3), .val (.int u4), .val (.int ((u0 &&& (2147483647 : Int32)) % (5 : Int32))), .unset, .unset, .unset]) rfl ?_
    exact k
  refine OFin.go S1 ?_
  obtain ⟨kk2, hkk2⟩ : ∃ z : Int32, z = ((u0 &&& (2147483647 : Int32)) % (5 : Int32)) := ⟨_, rfl⟩
  rw [← hkk2]
  rcases (own_k _ hkk2 : kk2 = (0 : Int32) ∨ kk2 = (1 : Int32) ∨ kk2 = (2 : Int32) ∨ kk2 = (3 : Int32) ∨ kk2 = (4 : Int32)) with hkk2'  | hkk2'  | hkk2'  | hkk2'  | hkk2' 
  ·
    subst hkk2'
    show OFin p e below _ (s₁.setTop (mkF m 8 #[.val (.int u0), .val (.int u1), .val (.int u2), .val (.int u3), .val (.int u4), .val (.int (0 : Int32)), .unset, .unset, .unset] []))
    have S3 : ∀ t, Steps p.tables e below (s₁.setTop (mkF m 15 #[.val (.int u0), .val (.int u1), .val (.int u2), .val (.int u3), .val (.int u4), .val (.int (0 : Int32)), .unset, .unset, .unset] [(.int u4), (.int u3), (.int u2), (.int u1), (.int (0 : Int32))])) t → Steps p.tables e below (s₁.setTop (mkF m 8 #[.val (.int u0), .val (.int u1), .val (.int u2), .val (.int u3), .val (.int u4), .val (.int (0 : Int32)), .unset, .unset, .unset] [])) t := by
      intro t k
      show Steps p.tables e below (s₁.setTop (mkF m 8 #[.val (.int u0), .val (.int u1), .val (.int u2), .val (.int u3), .val (.int u4), .val (.int (0 : Int32)), .unset, .unset, .unset] [])) t
      refine XS.iload X0.here hx rfl (hb hby at_8) rfl ?_
      show Steps p.tables e below (s₁.setTop (mkF m 10 #[.val (.int u0), .val (.int u1), .val (.int u2), .val (.int u3), .val (.int u4), .val (.int (0 : Int32)), .unset, .unset, .unset] [(.int (0 : Int32))])) t
      refine XS.iloadN X0.here hx rfl (hb hby at_10) rfl ?_
      show Steps p.tables e below (s₁.setTop (mkF m 11 #[.val (.int u0), .val (.int u1), .val (.int u2), .val (.int u3), .val (.int u4), .val (.int (0 : Int32)), .unset, .unset, .unset] [(.int u1), (.int (0 : Int32))])) t
      refine XS.iloadN X0.here hx rfl (hb hby at_11) rfl ?_
      show Steps p.tables e below (s₁.setTop (mkF m 12 #[.val (.int u0), .val (.int u1), .val (.int u2), .val (.int u3), .val (.int u4), .val (.int (0 : Int32)), .unset, .unset, .unset] [(.int u2), (.int u1), (.int (0 : Int32))])) t
      refine XS.iloadN X0.here hx rfl (hb hby at_12) rfl ?_
      show Steps p.tables e below (s₁.setTop (mkF m 13 #[.val (.int u0), .val (.int u1), .val (.int u2), .val (.int u3), .val (.int u4), .val (.int (0 : Int32)), .unset, .unset, .unset] [(.int u3), (.int u2), (.int u1), (.int (0 : Int32))])) t
      refine XS.iload X0.here hx rfl (hb hby at_13) rfl ?_
      exact k
    refine OFin.go S3 ?_
    obtain ⟨_, T4, Lc4, X4, hQ4, st4⟩ := callQ X0 hx hZ (y := (⟨"com/example/cardbench/cardbench/FrameOfPinLaw", "build", "(IIIII)[B"⟩ : MethodName)) hown (hw _ (List.mem_of_getElem? (i := 1) rfl)) (hw _ (List.mem_of_getElem? (i := 2) rfl)) (hw _ (List.mem_of_getElem? (i := 3) rfl)) (hw _ (List.mem_of_getElem? (i := 4) rfl)) (by decide) (argsL := [(.int (0 : Int32)), (.int u1), (.int u2), (.int u3), (.int u4)]) (rest := []) (rm1_0 l Z a0 hw [] u1 u2 u3 u4 h0 n0 Z0) (W := 0) (by decide) (by decide) e0 (g := (mkF m 15 #[.val (.int u0), .val (.int u1), .val (.int u2), .val (.int u3), .val (.int u4), .val (.int (0 : Int32)), .unset, .unset, .unset] [(.int u4), (.int u3), (.int u2), (.int u1), (.int (0 : Int32))])) rfl (by rw [hml]; rfl) (lenOf pd_1 rfl) rfl (by show 2 * 0 + _ ≤ _; exact Nat.le_of_eq rfl) (hb hby at_15) (Nat.le_of_ble_eq_true rfl) (Nat.le_of_ble_eq_true rfl)
    obtain ⟨b4, rfl, N4q, K4q, hb4, Q4, V4⟩ := hQ4
    have ge4 : n0 ≤ b4 := Nat.le_trans Z0 hb4
    have Z4 : n0 ≤ T4.heap.size := Nat.le_trans Z0 K4q.1
    have N4 := Fr.app N0 N4q
    refine OFin.go st4 ?_
    show OFin p e below _ (T4.setTop (mkF m 18 #[.val (.int u0), .val (.int u1), .val (.int u2), .val (.int u3), .val (.int u4), .val (.int (0 : Int32)), .unset, .unset, .unset] [(.ref b4)]))
    have S5 : ∀ t, Steps p.tables e below (T4.setTop (mkF m 22 #[.val (.int u0), .val (.int u1), .val (.int u2), .val (.int u3), .val (.int u4), .val (.int (0 : Int32)), .val (.ref b4), .unset, .unset] [(.ref b4)])) t → Steps p.tables e below (T4.setTop (mkF m 18 #[.val (.int u0), .val (.int u1), .val (.int u2), .val (.int u3), .val (.int u4), .val (.int (0 : Int32)), .unset, .unset, .unset] [(.ref b4)])) t := by
      intro t k
      show Steps p.tables e below (T4.setTop (mkF m 18 #[.val (.int u0), .val (.int u1), .val (.int u2), .val (.int u3), .val (.int u4), .val (.int (0 : Int32)), .unset, .unset, .unset] [(.ref b4)])) t
      refine XS.astore X4.here hx rfl (hb hby at_18) rfl rfl (l' := #[.val (.int u0), .val (.int u1), .val (.int u2), .val (.int u3), .val (.int u4), .val (.int (0 : Int32)), .val (.ref b4), .unset, .unset]) rfl ?_
      show Steps p.tables e below (T4.setTop (mkF m 20 #[.val (.int u0), .val (.int u1), .val (.int u2), .val (.int u3), .val (.int u4), .val (.int (0 : Int32)), .val (.ref b4), .unset, .unset] [])) t
      refine XS.aload X4.here hx rfl (hb hby at_20) rfl rfl ?_
      exact k
    refine OFin.go S5 ?_
    obtain ⟨_, T6, Lc6, X6, hQ6, st6⟩ := callQ X4 hx hZ (y := (⟨"com/example/cardbench/cardbench/Frame", "of", "([B)Lcom/example/cardbench/cardbench/Frame;"⟩ : MethodName)) hown (hw _ (List.mem_of_getElem? (i := 6) rfl)) (hw _ (List.mem_of_getElem? (i := 7) rfl)) (hw _ (List.mem_of_getElem? (i := 8) rfl)) (hw _ (List.mem_of_getElem? (i := 9) rfl)) (by decide) (argsL := [(.ref b4)]) (rest := []) (rm2 l Z a0 hw [] b4 0 (0 : Int32) (bf u1 u2 u3 u4) T4.heap n0 Z4 V4 Q4 (fun i _ => own_fit _ _ _ _ i) rfl (by decide)) (W := 0) (by decide) (by decide) rfl (g := (mkF m 22 #[.val (.int u0), .val (.int u1), .val (.int u2), .val (.int u3), .val (.int u4), .val (.int (0 : Int32)), .val (.ref b4), .unset, .unset] [(.ref b4)])) rfl (by rw [hml]; rfl) (lenOf pd_2 rfl) rfl (by show 2 * 0 + _ ≤ _; exact Nat.le_of_eq rfl) (hb hby at_22) (Nat.le_of_ble_eq_true rfl) (Nat.le_of_ble_eq_true rfl)
    obtain ⟨fr6, b6, rfl, N6q, K6q, hf6, hb6, ne6, E6, Fb6, Fi6, V6⟩ := hQ6
    have q7 : b4 ≠ fr6 := Nat.ne_of_lt (Nat.lt_of_lt_of_le V4.lt hf6)
    have ge6f : n0 ≤ fr6 := Nat.le_trans Z4 hf6
    have q8 : b4 ≠ b6 := Nat.ne_of_lt (Nat.lt_of_lt_of_le V4.lt hb6)
    have ge6 : n0 ≤ b6 := Nat.le_trans Z4 hb6
    have Z6 : n0 ≤ T6.heap.size := Nat.le_trans Z4 K6q.1
    have N6 := Fr.app N4 N6q
    refine OFin.go st6 ?_
    show OFin p e below _ (T6.setTop (mkF m 25 #[.val (.int u0), .val (.int u1), .val (.int u2), .val (.int u3), .val (.int u4), .val (.int (0 : Int32)), .val (.ref b4), .unset, .unset] [(.ref fr6)]))
    have S9 : ∀ t, Steps p.tables e below (T6.setTop (mkF m 30 #[.val (.int u0), .val (.int u1), .val (.int u2), .val (.int u3), .val (.int u4), .val (.int (0 : Int32)), .val (.ref b4), .val (.ref fr6), .unset] [(.int (1 : Int32)), (.int (0 : Int32))])) t → Steps p.tables e below (T6.setTop (mkF m 25 #[.val (.int u0), .val (.int u1), .val (.int u2), .val (.int u3), .val (.int u4), .val (.int (0 : Int32)), .val (.ref b4), .unset, .unset] [(.ref fr6)])) t := by
      intro t k
      show Steps p.tables e below (T6.setTop (mkF m 25 #[.val (.int u0), .val (.int u1), .val (.int u2), .val (.int u3), .val (.int u4), .val (.int (0 : Int32)), .val (.ref b4), .unset, .unset] [(.ref fr6)])) t
      refine XS.astore X6.here hx rfl (hb hby at_25) rfl rfl (l' := #[.val (.int u0), .val (.int u1), .val (.int u2), .val (.int u3), .val (.int u4), .val (.int (0 : Int32)), .val (.ref b4), .val (.ref fr6), .unset]) rfl ?_
      show Steps p.tables e below (T6.setTop (mkF m 27 #[.val (.int u0), .val (.int u1), .val (.int u2), .val (.int u3), .val (.int u4), .val (.int (0 : Int32)), .val (.ref b4), .val (.ref fr6), .unset] [])) t
      refine XS.iload X6.here hx rfl (hb hby at_27) rfl ?_
      show Steps p.tables e below (T6.setTop (mkF m 29 #[.val (.int u0), .val (.int u1), .val (.int u2), .val (.int u3), .val (.int u4), .val (.int (0 : Int32)), .val (.ref b4), .val (.ref fr6), .unset] [(.int (0 : Int32))])) t
      refine XS.iconst X6.here hx rfl (hb hby at_29) ?_
      exact k
    refine OFin.go S9 ?_
    have S10 : ∀ t, Steps p.tables e below (T6.setTop (mkF m 41 #[.val (.int u0), .val (.int u1), .val (.int u2), .val (.int u3), .val (.int u4), .val (.int (0 : Int32)), .val (.ref b4), .val (.ref fr6), .unset] [])) t → Steps p.tables e below (T6.setTop (mkF m 30 #[.val (.int u0), .val (.int u1), .val (.int u2), .val (.int u3), .val (.int u4), .val (.int (0 : Int32)), .val (.ref b4), .val (.ref fr6), .unset] [(.int (1 : Int32)), (.int (0 : Int32))])) t := by
      intro t k
      show Steps p.tables e below (T6.setTop (mkF m 30 #[.val (.int u0), .val (.int u1), .val (.int u2), .val (.int u3), .val (.int u4), .val (.int (0 : Int32)), .val (.ref b4), .val (.ref fr6), .unset] [(.int (1 : Int32)), (.int (0 : Int32))])) t
      refine XS.icmpYes X6.here hx rfl (pc0 := 30) (pc' := 41) rfl (hb hby at_30) rfl (tlt (by decide)).1 (by decide) (by decide) ?_
      exact k
    refine OFin.go S10 ?_
    have S11 : ∀ t, Steps p.tables e below (T6.setTop (mkF m 43 #[.val (.int u0), .val (.int u1), .val (.int u2), .val (.int u3), .val (.int u4), .val (.int (0 : Int32)), .val (.ref b4), .val (.ref fr6), .unset] [(.ref fr6)])) t → Steps p.tables e below (T6.setTop (mkF m 41 #[.val (.int u0), .val (.int u1), .val (.int u2), .val (.int u3), .val (.int u4), .val (.int (0 : Int32)), .val (.ref b4), .val (.ref fr6), .unset] [])) t := by
      intro t k
      show Steps p.tables e below (T6.setTop (mkF m 41 #[.val (.int u0), .val (.int u1), .val (.int u2), .val (.int u3), .val (.int u4), .val (.int (0 : Int32)), .val (.ref b4), .val (.ref fr6), .unset] [])) t
      refine XS.aload X6.here hx rfl (hb hby at_41) rfl rfl ?_
      exact k
    refine OFin.go S11 ?_
    obtain ⟨_, T12, Lc12, X12, hQ12, st12⟩ := virtQ X6 hx hZ (y := (⟨"com/example/cardbench/cardbench/Frame", "length", "()I"⟩ : MethodName)) hown (hw _ (List.mem_of_getElem? (i := 31) rfl)) (hw _ (List.mem_of_getElem? (i := 33) rfl)) (hw _ (List.mem_of_getElem? (i := 8) rfl)) (hw _ (List.mem_of_getElem? (i := 35) rfl)) (hw _ (List.mem_of_getElem? (i := 32) rfl)) (hw _ (List.mem_of_getElem? (i := 34) rfl)) (by decide) E6 (argsL := []) (rest := []) (rm5 l Z a0 hw [] fr6 b6 0 (0 : Int32) (bf u1 u2 u3 u4) T6.heap n0 Z6 Fb6 V6 rfl) (W := 0) (by decide) (by decide) rfl (g := (mkF m 43 #[.val (.int u0), .val (.int u1), .val (.int u2), .val (.int u3), .val (.int u4), .val (.int (0 : Int32)), .val (.ref b4), .val (.ref fr6), .unset] [(.ref fr6)])) rfl (by rw [hml]; rfl) (lenOf pd_3 rfl) rfl (by show 2 * 0 + _ ≤ _; exact Nat.le_of_eq rfl) (hb hby at_43) (Nat.le_of_ble_eq_true rfl) (Nat.le_of_ble_eq_true rfl)
    obtain ⟨rfl, N12q, e12⟩ := hQ12
    have N12 := Fr.app N6 N12q
    refine OFin.go st12 ?_
    show OFin p e below _ (T12.setTop (mkF m 46 #[.val (.int u0), .val (.int u1), .val (.int u2), .val (.int u3), .val (.int u4), .val (.int (0 : Int32)), .val (.ref b4), .val (.ref fr6), .unset] [(.int (0 : Int32))]))
    have S13 : ∀ t, Steps p.tables e below (T12.setTop (mkF m 48 #[.val (.int u0), .val (.int u1), .val (.int u2), .val (.int u3), .val (.int u4), .val (.int (0 : Int32)), .val (.ref b4), .val (.ref fr6), .unset] [(.int (0 : Int32)), (.int (0 : Int32))])) t → Steps p.tables e below (T12.setTop (mkF m 46 #[.val (.int u0), .val (.int u1), .val (.int u2), .val (.int u3), .val (.int u4), .val (.int (0 : Int32)), .val (.ref b4), .val (.ref fr6), .unset] [(.int (0 : Int32))])) t := by
      intro t k
      show Steps p.tables e below (T12.setTop (mkF m 46 #[.val (.int u0), .val (.int u1), .val (.int u2), .val (.int u3), .val (.int u4), .val (.int (0 : Int32)), .val (.ref b4), .val (.ref fr6), .unset] [(.int (0 : Int32))])) t
      refine XS.iload X12.here hx rfl (hb hby at_46) rfl ?_
      exact k
    refine OFin.go S13 ?_
    have S14 : ∀ t, Steps p.tables e below (T12.setTop (mkF m 51 #[.val (.int u0), .val (.int u1), .val (.int u2), .val (.int u3), .val (.int u4), .val (.int (0 : Int32)), .val (.ref b4), .val (.ref fr6), .unset] [])) t → Steps p.tables e below (T12.setTop (mkF m 48 #[.val (.int u0), .val (.int u1), .val (.int u2), .val (.int u3), .val (.int u4), .val (.int (0 : Int32)), .val (.ref b4), .val (.ref fr6), .unset] [(.int (0 : Int32)), (.int (0 : Int32))])) t := by
      intro t k
      show Steps p.tables e below (T12.setTop (mkF m 48 #[.val (.int u0), .val (.int u1), .val (.int u2), .val (.int u3), .val (.int u4), .val (.int (0 : Int32)), .val (.ref b4), .val (.ref fr6), .unset] [(.int (0 : Int32)), (.int (0 : Int32))])) t
      refine XS.icmpNo X12.here hx rfl (hb hby at_48) rfl (teq (by decide)).2 ?_
      exact k
    refine OFin.go S14 ?_
    have S15 : ∀ t, Steps p.tables e below (T12.setTop (mkF m 53 #[.val (.int u0), .val (.int u1), .val (.int u2), .val (.int u3), .val (.int u4), .val (.int (0 : Int32)), .val (.ref b4), .val (.ref fr6), .unset] [(.ref fr6)])) t → Steps p.tables e below (T12.setTop (mkF m 51 #[.val (.int u0), .val (.int u1), .val (.int u2), .val (.int u3), .val (.int u4), .val (.int (0 : Int32)), .val (.ref b4), .val (.ref fr6), .unset] [])) t := by
      intro t k
      show Steps p.tables e below (T12.setTop (mkF m 51 #[.val (.int u0), .val (.int u1), .val (.int u2), .val (.int u3), .val (.int u4), .val (.int (0 : Int32)), .val (.ref b4), .val (.ref fr6), .unset] [])) t
      refine XS.aload X12.here hx rfl (hb hby at_51) rfl rfl ?_
      exact k
    refine OFin.go S15 ?_
    obtain ⟨_, T16, Lc16, X16, hQ16, st16⟩ := virtQ X12 hx hZ (y := (⟨"com/example/cardbench/cardbench/Frame", "bits", "()I"⟩ : MethodName)) hown (hw _ (List.mem_of_getElem? (i := 36) rfl)) (hw _ (List.mem_of_getElem? (i := 38) rfl)) (hw _ (List.mem_of_getElem? (i := 8) rfl)) (hw _ (List.mem_of_getElem? (i := 40) rfl)) (hw _ (List.mem_of_getElem? (i := 37) rfl)) (hw _ (List.mem_of_getElem? (i := 39) rfl)) (by decide) E6 (argsL := []) (rest := []) (rm6 l Z a0 hw [] fr6 (0 : Int32) T6.heap n0 Z6 Fi6) (W := 0) (by decide) (by decide) e12 (g := (mkF m 53 #[.val (.int u0), .val (.int u1), .val (.int u2), .val (.int u3), .val (.int u4), .val (.int (0 : Int32)), .val (.ref b4), .val (.ref fr6), .unset] [(.ref fr6)])) rfl (by rw [hml]; rfl) (lenOf pd_3 rfl) rfl (by show 2 * 0 + _ ≤ _; exact Nat.le_of_eq rfl) (hb hby at_53) (Nat.le_of_ble_eq_true rfl) (Nat.le_of_ble_eq_true rfl)
    obtain ⟨rfl, N16q, e16⟩ := hQ16
    have N16 := Fr.app N12 N16q
    refine OFin.go st16 ?_
    show OFin p e below _ (T16.setTop (mkF m 56 #[.val (.int u0), .val (.int u1), .val (.int u2), .val (.int u3), .val (.int u4), .val (.int (0 : Int32)), .val (.ref b4), .val (.ref fr6), .unset] [(.int (0 : Int32))]))
    have S17 : ∀ t, Steps p.tables e below (T16.setTop (mkF m 61 #[.val (.int u0), .val (.int u1), .val (.int u2), .val (.int u3), .val (.int u4), .val (.int (0 : Int32)), .val (.ref b4), .val (.ref fr6), .unset] [(.int (0 : Int32)), (.int (0 : Int32))])) t → Steps p.tables e below (T16.setTop (mkF m 56 #[.val (.int u0), .val (.int u1), .val (.int u2), .val (.int u3), .val (.int u4), .val (.int (0 : Int32)), .val (.ref b4), .val (.ref fr6), .unset] [(.int (0 : Int32))])) t := by
      intro t k
      show Steps p.tables e below (T16.setTop (mkF m 56 #[.val (.int u0), .val (.int u1), .val (.int u2), .val (.int u3), .val (.int u4), .val (.int (0 : Int32)), .val (.ref b4), .val (.ref fr6), .unset] [(.int (0 : Int32))])) t
      refine XS.bipush X16.here hx rfl (hb hby at_56) ?_
      show Steps p.tables e below (T16.setTop (mkF m 58 #[.val (.int u0), .val (.int u1), .val (.int u2), .val (.int u3), .val (.int u4), .val (.int (0 : Int32)), .val (.ref b4), .val (.ref fr6), .unset] [(.int (8 : Int32)), (.int (0 : Int32))])) t
      refine XS.iload X16.here hx rfl (hb hby at_58) rfl ?_
      show Steps p.tables e below (T16.setTop (mkF m 60 #[.val (.int u0), .val (.int u1), .val (.int u2), .val (.int u3), .val (.int u4), .val (.int (0 : Int32)), .val (.ref b4), .val (.ref fr6), .unset] [(.int (0 : Int32)), (.int (8 : Int32)), (.int (0 : Int32))])) t
      refine XS.imul X16.here hx rfl (hb hby at_60) rfl ?_
      exact k
    refine OFin.go S17 ?_
    have S18 : ∀ t, Steps p.tables e below (T16.setTop (mkF m 64 #[.val (.int u0), .val (.int u1), .val (.int u2), .val (.int u3), .val (.int u4), .val (.int (0 : Int32)), .val (.ref b4), .val (.ref fr6), .unset] [])) t → Steps p.tables e below (T16.setTop (mkF m 61 #[.val (.int u0), .val (.int u1), .val (.int u2), .val (.int u3), .val (.int u4), .val (.int (0 : Int32)), .val (.ref b4), .val (.ref fr6), .unset] [(.int (0 : Int32)), (.int (0 : Int32))])) t := by
      intro t k
      show Steps p.tables e below (T16.setTop (mkF m 61 #[.val (.int u0), .val (.int u1), .val (.int u2), .val (.int u3), .val (.int u4), .val (.int (0 : Int32)), .val (.ref b4), .val (.ref fr6), .unset] [(.int (0 : Int32)), (.int (0 : Int32))])) t
      refine XS.icmpNo X16.here hx rfl (hb hby at_61) rfl (teq (by decide)).2 ?_
      exact k
    refine OFin.go S18 ?_
    have S19 : ∀ t, Steps p.tables e below (T16.setTop (mkF m 66 #[.val (.int u0), .val (.int u1), .val (.int u2), .val (.int u3), .val (.int u4), .val (.int (0 : Int32)), .val (.ref b4), .val (.ref fr6), .unset] [(.ref fr6)])) t → Steps p.tables e below (T16.setTop (mkF m 64 #[.val (.int u0), .val (.int u1), .val (.int u2), .val (.int u3), .val (.int u4), .val (.int (0 : Int32)), .val (.ref b4), .val (.ref fr6), .unset] [])) t := by
      intro t k
      show Steps p.tables e below (T16.setTop (mkF m 64 #[.val (.int u0), .val (.int u1), .val (.int u2), .val (.int u3), .val (.int u4), .val (.int (0 : Int32)), .val (.ref b4), .val (.ref fr6), .unset] [])) t
      refine XS.aload X16.here hx rfl (hb hby at_64) rfl rfl ?_
      exact k
    refine OFin.go S19 ?_
    obtain ⟨_, T20, Lc20, X20, hQ20, st20⟩ := virtQ X16 hx hZ (y := (⟨"com/example/cardbench/cardbench/Frame", "parityBits", "()I"⟩ : MethodName)) hown (hw _ (List.mem_of_getElem? (i := 41) rfl)) (hw _ (List.mem_of_getElem? (i := 43) rfl)) (hw _ (List.mem_of_getElem? (i := 8) rfl)) (hw _ (List.mem_of_getElem? (i := 45) rfl)) (hw _ (List.mem_of_getElem? (i := 42) rfl)) (hw _ (List.mem_of_getElem? (i := 44) rfl)) (by decide) E6 (argsL := []) (rest := []) (rm7 l Z a0 hw [] fr6 b6 0 (0 : Int32) (bf u1 u2 u3 u4) (0 : Int32) T6.heap n0 Z6 Fb6 V6 rfl Fi6 (by decide)) (W := 0) (by decide) (by decide) e16 (g := (mkF m 66 #[.val (.int u0), .val (.int u1), .val (.int u2), .val (.int u3), .val (.int u4), .val (.int (0 : Int32)), .val (.ref b4), .val (.ref fr6), .unset] [(.ref fr6)])) rfl (by rw [hml]; rfl) (lenOf pd_3 rfl) rfl (by show 2 * 0 + _ ≤ _; exact Nat.le_of_eq rfl) (hb hby at_66) (Nat.le_of_ble_eq_true rfl) (Nat.le_of_ble_eq_true rfl)
    obtain ⟨rfl, N20q, e20⟩ := hQ20
    have N20 := Fr.app N16 N20q
    refine OFin.go st20 ?_
    show OFin p e below _ (T20.setTop (mkF m 69 #[.val (.int u0), .val (.int u1), .val (.int u2), .val (.int u3), .val (.int u4), .val (.int (0 : Int32)), .val (.ref b4), .val (.ref fr6), .unset] [(.int (0 : Int32))]))
    have S21 : ∀ t, Steps p.tables e below (T20.setTop (mkF m 71 #[.val (.int u0), .val (.int u1), .val (.int u2), .val (.int u3), .val (.int u4), .val (.int (0 : Int32)), .val (.ref b4), .val (.ref fr6), .unset] [(.int (0 : Int32)), (.int (0 : Int32))])) t → Steps p.tables e below (T20.setTop (mkF m 69 #[.val (.int u0), .val (.int u1), .val (.int u2), .val (.int u3), .val (.int u4), .val (.int (0 : Int32)), .val (.ref b4), .val (.ref fr6), .unset] [(.int (0 : Int32))])) t := by
      intro t k
      show Steps p.tables e below (T20.setTop (mkF m 69 #[.val (.int u0), .val (.int u1), .val (.int u2), .val (.int u3), .val (.int u4), .val (.int (0 : Int32)), .val (.ref b4), .val (.ref fr6), .unset] [(.int (0 : Int32))])) t
      refine XS.iload X20.here hx rfl (hb hby at_69) rfl ?_
      exact k
    refine OFin.go S21 ?_
    have S22 : ∀ t, Steps p.tables e below (T20.setTop (mkF m 74 #[.val (.int u0), .val (.int u1), .val (.int u2), .val (.int u3), .val (.int u4), .val (.int (0 : Int32)), .val (.ref b4), .val (.ref fr6), .unset] [])) t → Steps p.tables e below (T20.setTop (mkF m 71 #[.val (.int u0), .val (.int u1), .val (.int u2), .val (.int u3), .val (.int u4), .val (.int (0 : Int32)), .val (.ref b4), .val (.ref fr6), .unset] [(.int (0 : Int32)), (.int (0 : Int32))])) t := by
      intro t k
      show Steps p.tables e below (T20.setTop (mkF m 71 #[.val (.int u0), .val (.int u1), .val (.int u2), .val (.int u3), .val (.int u4), .val (.int (0 : Int32)), .val (.ref b4), .val (.ref fr6), .unset] [(.int (0 : Int32)), (.int (0 : Int32))])) t
      refine XS.icmpNo X20.here hx rfl (hb hby at_71) rfl (teq (by decide)).2 ?_
      exact k
    refine OFin.go S22 ?_
    have S23 : ∀ t, Steps p.tables e below (T20.setTop (mkF m 84 #[.val (.int u0), .val (.int u1), .val (.int u2), .val (.int u3), .val (.int u4), .val (.int (0 : Int32)), .val (.ref b4), .val (.ref fr6), .val (.int (1 : Int32))] [(.int (1 : Int32)), (.int (0 : Int32))])) t → Steps p.tables e below (T20.setTop (mkF m 74 #[.val (.int u0), .val (.int u1), .val (.int u2), .val (.int u3), .val (.int u4), .val (.int (0 : Int32)), .val (.ref b4), .val (.ref fr6), .unset] [])) t := by
      intro t k
      show Steps p.tables e below (T20.setTop (mkF m 74 #[.val (.int u0), .val (.int u1), .val (.int u2), .val (.int u3), .val (.int u4), .val (.int (0 : Int32)), .val (.ref b4), .val (.ref fr6), .unset] [])) t
      refine XS.iconst X20.here hx rfl (hb hby at_74) ?_
      show Steps p.tables e below (T20.setTop (mkF m 75 #[.val (.int u0), .val (.int u1), .val (.int u2), .val (.int u3), .val (.int u4), .val (.int (0 : Int32)), .val (.ref b4), .val (.ref fr6), .unset] [(.int (1 : Int32))])) t
      refine XS.goto X20.here hx rfl (pc0 := 75) (pc' := 79) rfl (hb hby at_75) (by decide) (by decide) ?_
      show Steps p.tables e below (T20.setTop (mkF m 79 #[.val (.int u0), .val (.int u1), .val (.int u2), .val (.int u3), .val (.int u4), .val (.int (0 : Int32)), .val (.ref b4), .val (.ref fr6), .unset] [(.int (1 : Int32))])) t
      refine XS.istore X20.here hx rfl (hb hby at_79) rfl (l' := #[.val (.int u0), .val (.int u1), .val (.int u2), .val (.int u3), .val (.int u4), .val (.int (0 : Int32)), .val (.ref b4), .val (.ref fr6), .val (.int (1 : Int32))]) rfl ?_
      show Steps p.tables e below (T20.setTop (mkF m 81 #[.val (.int u0), .val (.int u1), .val (.int u2), .val (.int u3), .val (.int u4), .val (.int (0 : Int32)), .val (.ref b4), .val (.ref fr6), .val (.int (1 : Int32))] [])) t
      refine XS.iload X20.here hx rfl (hb hby at_81) rfl ?_
      show Steps p.tables e below (T20.setTop (mkF m 83 #[.val (.int u0), .val (.int u1), .val (.int u2), .val (.int u3), .val (.int u4), .val (.int (0 : Int32)), .val (.ref b4), .val (.ref fr6), .val (.int (1 : Int32))] [(.int (0 : Int32))])) t
      refine XS.iconst X20.here hx rfl (hb hby at_83) ?_
      exact k
    refine OFin.go S23 ?_
    have S24 : ∀ t, Steps p.tables e below (T20.setTop (mkF m 113 #[.val (.int u0), .val (.int u1), .val (.int u2), .val (.int u3), .val (.int u4), .val (.int (0 : Int32)), .val (.ref b4), .val (.ref fr6), .val (.int (1 : Int32))] [])) t → Steps p.tables e below (T20.setTop (mkF m 84 #[.val (.int u0), .val (.int u1), .val (.int u2), .val (.int u3), .val (.int u4), .val (.int (0 : Int32)), .val (.ref b4), .val (.ref fr6), .val (.int (1 : Int32))] [(.int (1 : Int32)), (.int (0 : Int32))])) t := by
      intro t k
      show Steps p.tables e below (T20.setTop (mkF m 84 #[.val (.int u0), .val (.int u1), .val (.int u2), .val (.int u3), .val (.int u4), .val (.int (0 : Int32)), .val (.ref b4), .val (.ref fr6), .val (.int (1 : Int32))] [(.int (1 : Int32)), (.int (0 : Int32))])) t
      refine XS.icmpYes X20.here hx rfl (pc0 := 84) (pc' := 113) rfl (hb hby at_84) rfl (tlt (by decide)).1 (by decide) (by decide) ?_
      exact k
    refine OFin.go S24 ?_
    have S25 : ∀ t, Steps p.tables e below (T20.setTop (mkF m 116 #[.val (.int u0), .val (.int u1), .val (.int u2), .val (.int u3), .val (.int u4), .val (.int (0 : Int32)), .val (.ref b4), .val (.ref fr6), .val (.int (1 : Int32))] [(.int (2 : Int32)), (.int (0 : Int32))])) t → Steps p.tables e below (T20.setTop (mkF m 113 #[.val (.int u0), .val (.int u1), .val (.int u2), .val (.int u3), .val (.int u4), .val (.int (0 : Int32)), .val (.ref b4), .val (.ref fr6), .val (.int (1 : Int32))] [])) t := by
      intro t k
      show Steps p.tables e below (T20.setTop (mkF m 113 #[.val (.int u0), .val (.int u1), .val (.int u2), .val (.int u3), .val (.int u4), .val (.int (0 : Int32)), .val (.ref b4), .val (.ref fr6), .val (.int (1 : Int32))] [])) t
      refine XS.iload X20.here hx rfl (hb hby at_113) rfl ?_
      show Steps p.tables e below (T20.setTop (mkF m 115 #[.val (.int u0), .val (.int u1), .val (.int u2), .val (.int u3), .val (.int u4), .val (.int (0 : Int32)), .val (.ref b4), .val (.ref fr6), .val (.int (1 : Int32))] [(.int (0 : Int32))])) t
      refine XS.iconst X20.here hx rfl (hb hby at_115) ?_
      exact k
    refine OFin.go S25 ?_
    have S26 : ∀ t, Steps p.tables e below (T20.setTop (mkF m 145 #[.val (.int u0), .val (.int u1), .val (.int u2), .val (.int u3), .val (.int u4), .val (.int (0 : Int32)), .val (.ref b4), .val (.ref fr6), .val (.int (1 : Int32))] [])) t → Steps p.tables e below (T20.setTop (mkF m 116 #[.val (.int u0), .val (.int u1), .val (.int u2), .val (.int u3), .val (.int u4), .val (.int (0 : Int32)), .val (.ref b4), .val (.ref fr6), .val (.int (1 : Int32))] [(.int (2 : Int32)), (.int (0 : Int32))])) t := by
      intro t k
      show Steps p.tables e below (T20.setTop (mkF m 116 #[.val (.int u0), .val (.int u1), .val (.int u2), .val (.int u3), .val (.int u4), .val (.int (0 : Int32)), .val (.ref b4), .val (.ref fr6), .val (.int (1 : Int32))] [(.int (2 : Int32)), (.int (0 : Int32))])) t
      refine XS.icmpYes X20.here hx rfl (pc0 := 116) (pc' := 145) rfl (hb hby at_116) rfl (tlt (by decide)).1 (by decide) (by decide) ?_
      exact k
    refine OFin.go S26 ?_
    have S27 : ∀ t, Steps p.tables e below (T20.setTop (mkF m 148 #[.val (.int u0), .val (.int u1), .val (.int u2), .val (.int u3), .val (.int u4), .val (.int (0 : Int32)), .val (.ref b4), .val (.ref fr6), .val (.int (1 : Int32))] [(.int (3 : Int32)), (.int (0 : Int32))])) t → Steps p.tables e below (T20.setTop (mkF m 145 #[.val (.int u0), .val (.int u1), .val (.int u2), .val (.int u3), .val (.int u4), .val (.int (0 : Int32)), .val (.ref b4), .val (.ref fr6), .val (.int (1 : Int32))] [])) t := by
      intro t k
      show Steps p.tables e below (T20.setTop (mkF m 145 #[.val (.int u0), .val (.int u1), .val (.int u2), .val (.int u3), .val (.int u4), .val (.int (0 : Int32)), .val (.ref b4), .val (.ref fr6), .val (.int (1 : Int32))] [])) t
      refine XS.iload X20.here hx rfl (hb hby at_145) rfl ?_
      show Steps p.tables e below (T20.setTop (mkF m 147 #[.val (.int u0), .val (.int u1), .val (.int u2), .val (.int u3), .val (.int u4), .val (.int (0 : Int32)), .val (.ref b4), .val (.ref fr6), .val (.int (1 : Int32))] [(.int (0 : Int32))])) t
      refine XS.iconst X20.here hx rfl (hb hby at_147) ?_
      exact k
    refine OFin.go S27 ?_
    have S28 : ∀ t, Steps p.tables e below (T20.setTop (mkF m 177 #[.val (.int u0), .val (.int u1), .val (.int u2), .val (.int u3), .val (.int u4), .val (.int (0 : Int32)), .val (.ref b4), .val (.ref fr6), .val (.int (1 : Int32))] [])) t → Steps p.tables e below (T20.setTop (mkF m 148 #[.val (.int u0), .val (.int u1), .val (.int u2), .val (.int u3), .val (.int u4), .val (.int (0 : Int32)), .val (.ref b4), .val (.ref fr6), .val (.int (1 : Int32))] [(.int (3 : Int32)), (.int (0 : Int32))])) t := by
      intro t k
      show Steps p.tables e below (T20.setTop (mkF m 148 #[.val (.int u0), .val (.int u1), .val (.int u2), .val (.int u3), .val (.int u4), .val (.int (0 : Int32)), .val (.ref b4), .val (.ref fr6), .val (.int (1 : Int32))] [(.int (3 : Int32)), (.int (0 : Int32))])) t
      refine XS.icmpYes X20.here hx rfl (pc0 := 148) (pc' := 177) rfl (hb hby at_148) rfl (tlt (by decide)).1 (by decide) (by decide) ?_
      exact k
    refine OFin.go S28 ?_
    have S29 : ∀ t, Steps p.tables e below (T20.setTop (mkF m 180 #[.val (.int u0), .val (.int u1), .val (.int u2), .val (.int u3), .val (.int u4), .val (.int (0 : Int32)), .val (.ref b4), .val (.ref fr6), .val (.int (1 : Int32))] [(.int (4 : Int32)), (.int (0 : Int32))])) t → Steps p.tables e below (T20.setTop (mkF m 177 #[.val (.int u0), .val (.int u1), .val (.int u2), .val (.int u3), .val (.int u4), .val (.int (0 : Int32)), .val (.ref b4), .val (.ref fr6), .val (.int (1 : Int32))] [])) t := by
      intro t k
      show Steps p.tables e below (T20.setTop (mkF m 177 #[.val (.int u0), .val (.int u1), .val (.int u2), .val (.int u3), .val (.int u4), .val (.int (0 : Int32)), .val (.ref b4), .val (.ref fr6), .val (.int (1 : Int32))] [])) t
      refine XS.iload X20.here hx rfl (hb hby at_177) rfl ?_
      show Steps p.tables e below (T20.setTop (mkF m 179 #[.val (.int u0), .val (.int u1), .val (.int u2), .val (.int u3), .val (.int u4), .val (.int (0 : Int32)), .val (.ref b4), .val (.ref fr6), .val (.int (1 : Int32))] [(.int (0 : Int32))])) t
      refine XS.iconst X20.here hx rfl (hb hby at_179) ?_
      exact k
    refine OFin.go S29 ?_
    have S30 : ∀ t, Steps p.tables e below (T20.setTop (mkF m 210 #[.val (.int u0), .val (.int u1), .val (.int u2), .val (.int u3), .val (.int u4), .val (.int (0 : Int32)), .val (.ref b4), .val (.ref fr6), .val (.int (1 : Int32))] [])) t → Steps p.tables e below (T20.setTop (mkF m 180 #[.val (.int u0), .val (.int u1), .val (.int u2), .val (.int u3), .val (.int u4), .val (.int (0 : Int32)), .val (.ref b4), .val (.ref fr6), .val (.int (1 : Int32))] [(.int (4 : Int32)), (.int (0 : Int32))])) t := by
      intro t k
      show Steps p.tables e below (T20.setTop (mkF m 180 #[.val (.int u0), .val (.int u1), .val (.int u2), .val (.int u3), .val (.int u4), .val (.int (0 : Int32)), .val (.ref b4), .val (.ref fr6), .val (.int (1 : Int32))] [(.int (4 : Int32)), (.int (0 : Int32))])) t
      refine XS.icmpYes X20.here hx rfl (pc0 := 180) (pc' := 210) rfl (hb hby at_180) rfl (tlt (by decide)).1 (by decide) (by decide) ?_
      exact k
    refine OFin.go S30 ?_
    have S31 : ∀ t, Steps p.tables e below (T20.setTop (mkF m 212 #[.val (.int u0), .val (.int u1), .val (.int u2), .val (.int u3), .val (.int u4), .val (.int (0 : Int32)), .val (.ref b4), .val (.ref fr6), .val (.int (1 : Int32))] [(.int (1 : Int32))])) t → Steps p.tables e below (T20.setTop (mkF m 210 #[.val (.int u0), .val (.int u1), .val (.int u2), .val (.int u3), .val (.int u4), .val (.int (0 : Int32)), .val (.ref b4), .val (.ref fr6), .val (.int (1 : Int32))] [])) t := by
      intro t k
      show Steps p.tables e below (T20.setTop (mkF m 210 #[.val (.int u0), .val (.int u1), .val (.int u2), .val (.int u3), .val (.int u4), .val (.int (0 : Int32)), .val (.ref b4), .val (.ref fr6), .val (.int (1 : Int32))] [])) t
      refine XS.iload X20.here hx rfl (hb hby at_210) rfl ?_
      exact k
    refine OFin.go S31 ?_
    exact finZ X20 hx Bd.notSynchronized (t := .boolean) Bd.returns (by simp) (hb hby at_212) rfl (by decide) (by decide) (⟨congrArg (fun z => some (Value.int z)) (rfl : (1 : Int32) = (1 : Int32)), N20⟩)
  ·
    subst hkk2'
    show OFin p e below _ (s₁.setTop (mkF m 8 #[.val (.int u0), .val (.int u1), .val (.int u2), .val (.int u3), .val (.int u4), .val (.int (1 : Int32)), .unset, .unset, .unset] []))
    have S32 : ∀ t, Steps p.tables e below (s₁.setTop (mkF m 15 #[.val (.int u0), .val (.int u1), .val (.int u2), .val (.int u3), .val (.int u4), .val (.int (1 : Int32)), .unset, .unset, .unset] [(.int u4), (.int u3), (.int u2), (.int u1), (.int (1 : Int32))])) t → Steps p.tables e below (s₁.setTop (mkF m 8 #[.val (.int u0), .val (.int u1), .val (.int u2), .val (.int u3), .val (.int u4), .val (.int (1 : Int32)), .unset, .unset, .unset] [])) t := by
      intro t k
      show Steps p.tables e below (s₁.setTop (mkF m 8 #[.val (.int u0), .val (.int u1), .val (.int u2), .val (.int u3), .val (.int u4), .val (.int (1 : Int32)), .unset, .unset, .unset] [])) t
      refine XS.iload X0.here hx rfl (hb hby at_8) rfl ?_
      show Steps p.tables e below (s₁.setTop (mkF m 10 #[.val (.int u0), .val (.int u1), .val (.int u2), .val (.int u3), .val (.int u4), .val (.int (1 : Int32)), .unset, .unset, .unset] [(.int (1 : Int32))])) t
      refine XS.iloadN X0.here hx rfl (hb hby at_10) rfl ?_
      show Steps p.tables e below (s₁.setTop (mkF m 11 #[.val (.int u0), .val (.int u1), .val (.int u2), .val (.int u3), .val (.int u4), .val (.int (1 : Int32)), .unset, .unset, .unset] [(.int u1), (.int (1 : Int32))])) t
      refine XS.iloadN X0.here hx rfl (hb hby at_11) rfl ?_
      show Steps p.tables e below (s₁.setTop (mkF m 12 #[.val (.int u0), .val (.int u1), .val (.int u2), .val (.int u3), .val (.int u4), .val (.int (1 : Int32)), .unset, .unset, .unset] [(.int u2), (.int u1), (.int (1 : Int32))])) t
      refine XS.iloadN X0.here hx rfl (hb hby at_12) rfl ?_
      show Steps p.tables e below (s₁.setTop (mkF m 13 #[.val (.int u0), .val (.int u1), .val (.int u2), .val (.int u3), .val (.int u4), .val (.int (1 : Int32)), .unset, .unset, .unset] [(.int u3), (.int u2), (.int u1), (.int (1 : Int32))])) t
      refine XS.iload X0.here hx rfl (hb hby at_13) rfl ?_
      exact k
    refine OFin.go S32 ?_
    obtain ⟨_, T33, Lc33, X33, hQ33, st33⟩ := callQ X0 hx hZ (y := (⟨"com/example/cardbench/cardbench/FrameOfPinLaw", "build", "(IIIII)[B"⟩ : MethodName)) hown (hw _ (List.mem_of_getElem? (i := 1) rfl)) (hw _ (List.mem_of_getElem? (i := 2) rfl)) (hw _ (List.mem_of_getElem? (i := 3) rfl)) (hw _ (List.mem_of_getElem? (i := 4) rfl)) (by decide) (argsL := [(.int (1 : Int32)), (.int u1), (.int u2), (.int u3), (.int u4)]) (rest := []) (rm1_1 l Z a0 hw [] u1 u2 u3 u4 h0 n0 Z0) (W := 0) (by decide) (by decide) e0 (g := (mkF m 15 #[.val (.int u0), .val (.int u1), .val (.int u2), .val (.int u3), .val (.int u4), .val (.int (1 : Int32)), .unset, .unset, .unset] [(.int u4), (.int u3), (.int u2), (.int u1), (.int (1 : Int32))])) rfl (by rw [hml]; rfl) (lenOf pd_1 rfl) rfl (by show 2 * 0 + _ ≤ _; exact Nat.le_of_eq rfl) (hb hby at_15) (Nat.le_of_ble_eq_true rfl) (Nat.le_of_ble_eq_true rfl)
    obtain ⟨b33, rfl, N33q, K33q, hb33, Q33, V33⟩ := hQ33
    have ge33 : n0 ≤ b33 := Nat.le_trans Z0 hb33
    have Z33 : n0 ≤ T33.heap.size := Nat.le_trans Z0 K33q.1
    have N33 := Fr.app N0 N33q
    refine OFin.go st33 ?_
    show OFin p e below _ (T33.setTop (mkF m 18 #[.val (.int u0), .val (.int u1), .val (.int u2), .val (.int u3), .val (.int u4), .val (.int (1 : Int32)), .unset, .unset, .unset] [(.ref b33)]))
    have S34 : ∀ t, Steps p.tables e below (T33.setTop (mkF m 22 #[.val (.int u0), .val (.int u1), .val (.int u2), .val (.int u3), .val (.int u4), .val (.int (1 : Int32)), .val (.ref b33), .unset, .unset] [(.ref b33)])) t → Steps p.tables e below (T33.setTop (mkF m 18 #[.val (.int u0), .val (.int u1), .val (.int u2), .val (.int u3), .val (.int u4), .val (.int (1 : Int32)), .unset, .unset, .unset] [(.ref b33)])) t := by
      intro t k
      show Steps p.tables e below (T33.setTop (mkF m 18 #[.val (.int u0), .val (.int u1), .val (.int u2), .val (.int u3), .val (.int u4), .val (.int (1 : Int32)), .unset, .unset, .unset] [(.ref b33)])) t
      refine XS.astore X33.here hx rfl (hb hby at_18) rfl rfl (l' := #[.val (.int u0), .val (.int u1), .val (.int u2), .val (.int u3), .val (.int u4), .val (.int (1 : Int32)), .val (.ref b33), .unset, .unset]) rfl ?_
      show Steps p.tables e below (T33.setTop (mkF m 20 #[.val (.int u0), .val (.int u1), .val (.int u2), .val (.int u3), .val (.int u4), .val (.int (1 : Int32)), .val (.ref b33), .unset, .unset] [])) t
      refine XS.aload X33.here hx rfl (hb hby at_20) rfl rfl ?_
      exact k
    refine OFin.go S34 ?_
    obtain ⟨_, T35, Lc35, X35, hQ35, st35⟩ := callQ X33 hx hZ (y := (⟨"com/example/cardbench/cardbench/Frame", "of", "([B)Lcom/example/cardbench/cardbench/Frame;"⟩ : MethodName)) hown (hw _ (List.mem_of_getElem? (i := 6) rfl)) (hw _ (List.mem_of_getElem? (i := 7) rfl)) (hw _ (List.mem_of_getElem? (i := 8) rfl)) (hw _ (List.mem_of_getElem? (i := 9) rfl)) (by decide) (argsL := [(.ref b33)]) (rest := []) (rm2 l Z a0 hw [] b33 1 (1 : Int32) (bf u1 u2 u3 u4) T33.heap n0 Z33 V33 Q33 (fun i _ => own_fit _ _ _ _ i) rfl (by decide)) (W := 0) (by decide) (by decide) rfl (g := (mkF m 22 #[.val (.int u0), .val (.int u1), .val (.int u2), .val (.int u3), .val (.int u4), .val (.int (1 : Int32)), .val (.ref b33), .unset, .unset] [(.ref b33)])) rfl (by rw [hml]; rfl) (lenOf pd_2 rfl) rfl (by show 2 * 0 + _ ≤ _; exact Nat.le_of_eq rfl) (hb hby at_22) (Nat.le_of_ble_eq_true rfl) (Nat.le_of_ble_eq_true rfl)
    obtain ⟨fr35, b35, rfl, N35q, K35q, hf35, hb35, ne35, E35, Fb35, Fi35, V35⟩ := hQ35
    have q36 : b33 ≠ fr35 := Nat.ne_of_lt (Nat.lt_of_lt_of_le V33.lt hf35)
    have ge35f : n0 ≤ fr35 := Nat.le_trans Z33 hf35
    have q37 : b33 ≠ b35 := Nat.ne_of_lt (Nat.lt_of_lt_of_le V33.lt hb35)
    have ge35 : n0 ≤ b35 := Nat.le_trans Z33 hb35
    have Z35 : n0 ≤ T35.heap.size := Nat.le_trans Z33 K35q.1
    have N35 := Fr.app N33 N35q
    refine OFin.go st35 ?_
    show OFin p e below _ (T35.setTop (mkF m 25 #[.val (.int u0), .val (.int u1), .val (.int u2), .val (.int u3), .val (.int u4), .val (.int (1 : Int32)), .val (.ref b33), .unset, .unset] [(.ref fr35)]))
    have S38 : ∀ t, Steps p.tables e below (T35.setTop (mkF m 30 #[.val (.int u0), .val (.int u1), .val (.int u2), .val (.int u3), .val (.int u4), .val (.int (1 : Int32)), .val (.ref b33), .val (.ref fr35), .unset] [(.int (1 : Int32)), (.int (1 : Int32))])) t → Steps p.tables e below (T35.setTop (mkF m 25 #[.val (.int u0), .val (.int u1), .val (.int u2), .val (.int u3), .val (.int u4), .val (.int (1 : Int32)), .val (.ref b33), .unset, .unset] [(.ref fr35)])) t := by
      intro t k
      show Steps p.tables e below (T35.setTop (mkF m 25 #[.val (.int u0), .val (.int u1), .val (.int u2), .val (.int u3), .val (.int u4), .val (.int (1 : Int32)), .val (.ref b33), .unset, .unset] [(.ref fr35)])) t
      refine XS.astore X35.here hx rfl (hb hby at_25) rfl rfl (l' := #[.val (.int u0), .val (.int u1), .val (.int u2), .val (.int u3), .val (.int u4), .val (.int (1 : Int32)), .val (.ref b33), .val (.ref fr35), .unset]) rfl ?_
      show Steps p.tables e below (T35.setTop (mkF m 27 #[.val (.int u0), .val (.int u1), .val (.int u2), .val (.int u3), .val (.int u4), .val (.int (1 : Int32)), .val (.ref b33), .val (.ref fr35), .unset] [])) t
      refine XS.iload X35.here hx rfl (hb hby at_27) rfl ?_
      show Steps p.tables e below (T35.setTop (mkF m 29 #[.val (.int u0), .val (.int u1), .val (.int u2), .val (.int u3), .val (.int u4), .val (.int (1 : Int32)), .val (.ref b33), .val (.ref fr35), .unset] [(.int (1 : Int32))])) t
      refine XS.iconst X35.here hx rfl (hb hby at_29) ?_
      exact k
    refine OFin.go S38 ?_
    have S39 : ∀ t, Steps p.tables e below (T35.setTop (mkF m 33 #[.val (.int u0), .val (.int u1), .val (.int u2), .val (.int u3), .val (.int u4), .val (.int (1 : Int32)), .val (.ref b33), .val (.ref fr35), .unset] [])) t → Steps p.tables e below (T35.setTop (mkF m 30 #[.val (.int u0), .val (.int u1), .val (.int u2), .val (.int u3), .val (.int u4), .val (.int (1 : Int32)), .val (.ref b33), .val (.ref fr35), .unset] [(.int (1 : Int32)), (.int (1 : Int32))])) t := by
      intro t k
      show Steps p.tables e below (T35.setTop (mkF m 30 #[.val (.int u0), .val (.int u1), .val (.int u2), .val (.int u3), .val (.int u4), .val (.int (1 : Int32)), .val (.ref b33), .val (.ref fr35), .unset] [(.int (1 : Int32)), (.int (1 : Int32))])) t
      refine XS.icmpNo X35.here hx rfl (hb hby at_30) rfl (flt (by decide)).1 ?_
      exact k
    refine OFin.go S39 ?_
    have S40 : ∀ t, Steps p.tables e below (T35.setTop (mkF m 40 #[.val (.int u0), .val (.int u1), .val (.int u2), .val (.int u3), .val (.int u4), .val (.int (1 : Int32)), .val (.ref b33), .val (.ref fr35), .unset] [(.int ((u1 ^^^ (-1 : Int32)).toInt8.toInt32)), (.int (0 : Int32)), (.ref b33)])) t → Steps p.tables e below (T35.setTop (mkF m 33 #[.val (.int u0), .val (.int u1), .val (.int u2), .val (.int u3), .val (.int u4), .val (.int (1 : Int32)), .val (.ref b33), .val (.ref fr35), .unset] [])) t := by
      intro t k
      show Steps p.tables e below (T35.setTop (mkF m 33 #[.val (.int u0), .val (.int u1), .val (.int u2), .val (.int u3), .val (.int u4), .val (.int (1 : Int32)), .val (.ref b33), .val (.ref fr35), .unset] [])) t
      refine XS.aload X35.here hx rfl (hb hby at_33) rfl rfl ?_
      show Steps p.tables e below (T35.setTop (mkF m 35 #[.val (.int u0), .val (.int u1), .val (.int u2), .val (.int u3), .val (.int u4), .val (.int (1 : Int32)), .val (.ref b33), .val (.ref fr35), .unset] [(.ref b33)])) t
      refine XS.iconst X35.here hx rfl (hb hby at_35) ?_
      show Steps p.tables e below (T35.setTop (mkF m 36 #[.val (.int u0), .val (.int u1), .val (.int u2), .val (.int u3), .val (.int u4), .val (.int (1 : Int32)), .val (.ref b33), .val (.ref fr35), .unset] [(.int (0 : Int32)), (.ref b33)])) t
      refine XS.iloadN X35.here hx rfl (hb hby at_36) rfl ?_
      show Steps p.tables e below (T35.setTop (mkF m 37 #[.val (.int u0), .val (.int u1), .val (.int u2), .val (.int u3), .val (.int u4), .val (.int (1 : Int32)), .val (.ref b33), .val (.ref fr35), .unset] [(.int u1), (.int (0 : Int32)), (.ref b33)])) t
      refine XS.iconst X35.here hx rfl (hb hby at_37) ?_
      show Steps p.tables e below (T35.setTop (mkF m 38 #[.val (.int u0), .val (.int u1), .val (.int u2), .val (.int u3), .val (.int u4), .val (.int (1 : Int32)), .val (.ref b33), .val (.ref fr35), .unset] [(.int (-1 : Int32)), (.int u1), (.int (0 : Int32)), (.ref b33)])) t
      refine XS.ixor X35.here hx rfl (hb hby at_38) rfl ?_
      show Steps p.tables e below (T35.setTop (mkF m 39 #[.val (.int u0), .val (.int u1), .val (.int u2), .val (.int u3), .val (.int u4), .val (.int (1 : Int32)), .val (.ref b33), .val (.ref fr35), .unset] [(.int (u1 ^^^ (-1 : Int32))), (.int (0 : Int32)), (.ref b33)])) t
      refine XS.i2b X35.here hx rfl (hb hby at_39) rfl ?_
      exact k
    refine OFin.go S40 ?_
    have F41 := V33.keep K35q nin0
    obtain ⟨T42, h42, X42, e42, W42, st42⟩ := wrB X35 hx hZ rfl F41 (i := 0) (by decide) rfl (by decide) (y' := ((u1 ^^^ (-1 : Int32)).toInt8.toInt32)) (nar_b _) (g := (mkF m 40 #[.val (.int u0), .val (.int u1), .val (.int u2), .val (.int u3), .val (.int u4), .val (.int (1 : Int32)), .val (.ref b33), .val (.ref fr35), .unset] [(.int ((u1 ^^^ (-1 : Int32)).toInt8.toInt32)), (.int (0 : Int32)), (.ref b33)])) rfl rfl (hb hby at_40)
    have V42 := F41.set W42
    have N42 := Fr.snoc X42 N35 ge33
    have Z42 : n0 ≤ h42.size := Nat.le_trans Z35 (wr_le W42)
    refine OFin.go st42 ?_
    show OFin p e below _ (T42.setTop (mkF m 41 #[.val (.int u0), .val (.int u1), .val (.int u2), .val (.int u3), .val (.int u4), .val (.int (1 : Int32)), .val (.ref b33), .val (.ref fr35), .unset] []))
    have S43 : ∀ t, Steps p.tables e below (T42.setTop (mkF m 43 #[.val (.int u0), .val (.int u1), .val (.int u2), .val (.int u3), .val (.int u4), .val (.int (1 : Int32)), .val (.ref b33), .val (.ref fr35), .unset] [(.ref fr35)])) t → Steps p.tables e below (T42.setTop (mkF m 41 #[.val (.int u0), .val (.int u1), .val (.int u2), .val (.int u3), .val (.int u4), .val (.int (1 : Int32)), .val (.ref b33), .val (.ref fr35), .unset] [])) t := by
      intro t k
      show Steps p.tables e below (T42.setTop (mkF m 41 #[.val (.int u0), .val (.int u1), .val (.int u2), .val (.int u3), .val (.int u4), .val (.int (1 : Int32)), .val (.ref b33), .val (.ref fr35), .unset] [])) t
      refine XS.aload X42.here hx rfl (hb hby at_41) rfl rfl ?_
      exact k
    refine OFin.go S43 ?_
    have F45 := Fb35.other W42 (Or.inl (Ne.symm q36))
    have F46 := V35.other W42 (Ne.symm q37)
    have F47 := E35.wr W42
    obtain ⟨_, T44, Lc44, X44, hQ44, st44⟩ := virtQ X42 hx hZ (y := (⟨"com/example/cardbench/cardbench/Frame", "length", "()I"⟩ : MethodName)) hown (hw _ (List.mem_of_getElem? (i := 31) rfl)) (hw _ (List.mem_of_getElem? (i := 33) rfl)) (hw _ (List.mem_of_getElem? (i := 8) rfl)) (hw _ (List.mem_of_getElem? (i := 35) rfl)) (hw _ (List.mem_of_getElem? (i := 32) rfl)) (hw _ (List.mem_of_getElem? (i := 34) rfl)) (by decide) F47 (argsL := []) (rest := []) (rm5 l Z a0 hw [] fr35 b35 1 (1 : Int32) (bf u1 u2 u3 u4) h42 n0 Z42 F45 F46 rfl) (W := 0) (by decide) (by decide) e42 (g := (mkF m 43 #[.val (.int u0), .val (.int u1), .val (.int u2), .val (.int u3), .val (.int u4), .val (.int (1 : Int32)), .val (.ref b33), .val (.ref fr35), .unset] [(.ref fr35)])) rfl (by rw [hml]; rfl) (lenOf pd_3 rfl) rfl (by show 2 * 0 + _ ≤ _; exact Nat.le_of_eq rfl) (hb hby at_43) (Nat.le_of_ble_eq_true rfl) (Nat.le_of_ble_eq_true rfl)
    obtain ⟨rfl, N44q, e44⟩ := hQ44
    have N44 := Fr.app N42 N44q
    refine OFin.go st44 ?_
    show OFin p e below _ (T44.setTop (mkF m 46 #[.val (.int u0), .val (.int u1), .val (.int u2), .val (.int u3), .val (.int u4), .val (.int (1 : Int32)), .val (.ref b33), .val (.ref fr35), .unset] [(.int (1 : Int32))]))
    have S48 : ∀ t, Steps p.tables e below (T44.setTop (mkF m 48 #[.val (.int u0), .val (.int u1), .val (.int u2), .val (.int u3), .val (.int u4), .val (.int (1 : Int32)), .val (.ref b33), .val (.ref fr35), .unset] [(.int (1 : Int32)), (.int (1 : Int32))])) t → Steps p.tables e below (T44.setTop (mkF m 46 #[.val (.int u0), .val (.int u1), .val (.int u2), .val (.int u3), .val (.int u4), .val (.int (1 : Int32)), .val (.ref b33), .val (.ref fr35), .unset] [(.int (1 : Int32))])) t := by
      intro t k
      show Steps p.tables e below (T44.setTop (mkF m 46 #[.val (.int u0), .val (.int u1), .val (.int u2), .val (.int u3), .val (.int u4), .val (.int (1 : Int32)), .val (.ref b33), .val (.ref fr35), .unset] [(.int (1 : Int32))])) t
      refine XS.iload X44.here hx rfl (hb hby at_46) rfl ?_
      exact k
    refine OFin.go S48 ?_
    have S49 : ∀ t, Steps p.tables e below (T44.setTop (mkF m 51 #[.val (.int u0), .val (.int u1), .val (.int u2), .val (.int u3), .val (.int u4), .val (.int (1 : Int32)), .val (.ref b33), .val (.ref fr35), .unset] [])) t → Steps p.tables e below (T44.setTop (mkF m 48 #[.val (.int u0), .val (.int u1), .val (.int u2), .val (.int u3), .val (.int u4), .val (.int (1 : Int32)), .val (.ref b33), .val (.ref fr35), .unset] [(.int (1 : Int32)), (.int (1 : Int32))])) t := by
      intro t k
      show Steps p.tables e below (T44.setTop (mkF m 48 #[.val (.int u0), .val (.int u1), .val (.int u2), .val (.int u3), .val (.int u4), .val (.int (1 : Int32)), .val (.ref b33), .val (.ref fr35), .unset] [(.int (1 : Int32)), (.int (1 : Int32))])) t
      refine XS.icmpNo X44.here hx rfl (hb hby at_48) rfl (teq (by decide)).2 ?_
      exact k
    refine OFin.go S49 ?_
    have S50 : ∀ t, Steps p.tables e below (T44.setTop (mkF m 53 #[.val (.int u0), .val (.int u1), .val (.int u2), .val (.int u3), .val (.int u4), .val (.int (1 : Int32)), .val (.ref b33), .val (.ref fr35), .unset] [(.ref fr35)])) t → Steps p.tables e below (T44.setTop (mkF m 51 #[.val (.int u0), .val (.int u1), .val (.int u2), .val (.int u3), .val (.int u4), .val (.int (1 : Int32)), .val (.ref b33), .val (.ref fr35), .unset] [])) t := by
      intro t k
      show Steps p.tables e below (T44.setTop (mkF m 51 #[.val (.int u0), .val (.int u1), .val (.int u2), .val (.int u3), .val (.int u4), .val (.int (1 : Int32)), .val (.ref b33), .val (.ref fr35), .unset] [])) t
      refine XS.aload X44.here hx rfl (hb hby at_51) rfl rfl ?_
      exact k
    refine OFin.go S50 ?_
    have F52 := Fi35.other W42 (Or.inl (Ne.symm q36))
    obtain ⟨_, T51, Lc51, X51, hQ51, st51⟩ := virtQ X44 hx hZ (y := (⟨"com/example/cardbench/cardbench/Frame", "bits", "()I"⟩ : MethodName)) hown (hw _ (List.mem_of_getElem? (i := 36) rfl)) (hw _ (List.mem_of_getElem? (i := 38) rfl)) (hw _ (List.mem_of_getElem? (i := 8) rfl)) (hw _ (List.mem_of_getElem? (i := 40) rfl)) (hw _ (List.mem_of_getElem? (i := 37) rfl)) (hw _ (List.mem_of_getElem? (i := 39) rfl)) (by decide) F47 (argsL := []) (rest := []) (rm6 l Z a0 hw [] fr35 (8 : Int32) h42 n0 Z42 F52) (W := 0) (by decide) (by decide) e44 (g := (mkF m 53 #[.val (.int u0), .val (.int u1), .val (.int u2), .val (.int u3), .val (.int u4), .val (.int (1 : Int32)), .val (.ref b33), .val (.ref fr35), .unset] [(.ref fr35)])) rfl (by rw [hml]; rfl) (lenOf pd_3 rfl) rfl (by show 2 * 0 + _ ≤ _; exact Nat.le_of_eq rfl) (hb hby at_53) (Nat.le_of_ble_eq_true rfl) (Nat.le_of_ble_eq_true rfl)
    obtain ⟨rfl, N51q, e51⟩ := hQ51
    have N51 := Fr.app N44 N51q
    refine OFin.go st51 ?_
    show OFin p e below _ (T51.setTop (mkF m 56 #[.val (.int u0), .val (.int u1), .val (.int u2), .val (.int u3), .val (.int u4), .val (.int (1 : Int32)), .val (.ref b33), .val (.ref fr35), .unset] [(.int (8 : Int32))]))
    have S53 : ∀ t, Steps p.tables e below (T51.setTop (mkF m 61 #[.val (.int u0), .val (.int u1), .val (.int u2), .val (.int u3), .val (.int u4), .val (.int (1 : Int32)), .val (.ref b33), .val (.ref fr35), .unset] [(.int (8 : Int32)), (.int (8 : Int32))])) t → Steps p.tables e below (T51.setTop (mkF m 56 #[.val (.int u0), .val (.int u1), .val (.int u2), .val (.int u3), .val (.int u4), .val (.int (1 : Int32)), .val (.ref b33), .val (.ref fr35), .unset] [(.int (8 : Int32))])) t := by
      intro t k
      show Steps p.tables e below (T51.setTop (mkF m 56 #[.val (.int u0), .val (.int u1), .val (.int u2), .val (.int u3), .val (.int u4), .val (.int (1 : Int32)), .val (.ref b33), .val (.ref fr35), .unset] [(.int (8 : Int32))])) t
      refine XS.bipush X51.here hx rfl (hb hby at_56) ?_
      show Steps p.tables e below (T51.setTop (mkF m 58 #[.val (.int u0), .val (.int u1), .val (.int u2), .val (.int u3), .val (.int u4), .val (.int (1 : Int32)), .val (.ref b33), .val (.ref fr35), .unset] [(.int (8 : Int32)), (.int (8 : Int32))])) t
      refine XS.iload X51.here hx rfl (hb hby at_58) rfl ?_
      show Steps p.tables e below (T51.setTop (mkF m 60 #[.val (.int u0), .val (.int u1), .val (.int u2), .val (.int u3), .val (.int u4), .val (.int (1 : Int32)), .val (.ref b33), .val (.ref fr35), .unset] [(.int (1 : Int32)), (.int (8 : Int32)), (.int (8 : Int32))])) t
      refine XS.imul X51.here hx rfl (hb hby at_60) rfl ?_
      exact k
    refine OFin.go S53 ?_
    have S54 : ∀ t, Steps p.tables e below (T51.setTop (mkF m 64 #[.val (.int u0), .val (.int u1), .val (.int u2), .val (.int u3), .val (.int u4), .val (.int (1 : Int32)), .val (.ref b33), .val (.ref fr35), .unset] [])) t → Steps p.tables e below (T51.setTop (mkF m 61 #[.val (.int u0), .val (.int u1), .val (.int u2), .val (.int u3), .val (.int u4), .val (.int (1 : Int32)), .val (.ref b33), .val (.ref fr35), .unset] [(.int (8 : Int32)), (.int (8 : Int32))])) t := by
      intro t k
      show Steps p.tables e below (T51.setTop (mkF m 61 #[.val (.int u0), .val (.int u1), .val (.int u2), .val (.int u3), .val (.int u4), .val (.int (1 : Int32)), .val (.ref b33), .val (.ref fr35), .unset] [(.int (8 : Int32)), (.int (8 : Int32))])) t
      refine XS.icmpNo X51.here hx rfl (hb hby at_61) rfl (teq (by decide)).2 ?_
      exact k
    refine OFin.go S54 ?_
    have S55 : ∀ t, Steps p.tables e below (T51.setTop (mkF m 66 #[.val (.int u0), .val (.int u1), .val (.int u2), .val (.int u3), .val (.int u4), .val (.int (1 : Int32)), .val (.ref b33), .val (.ref fr35), .unset] [(.ref fr35)])) t → Steps p.tables e below (T51.setTop (mkF m 64 #[.val (.int u0), .val (.int u1), .val (.int u2), .val (.int u3), .val (.int u4), .val (.int (1 : Int32)), .val (.ref b33), .val (.ref fr35), .unset] [])) t := by
      intro t k
      show Steps p.tables e below (T51.setTop (mkF m 64 #[.val (.int u0), .val (.int u1), .val (.int u2), .val (.int u3), .val (.int u4), .val (.int (1 : Int32)), .val (.ref b33), .val (.ref fr35), .unset] [])) t
      refine XS.aload X51.here hx rfl (hb hby at_64) rfl rfl ?_
      exact k
    refine OFin.go S55 ?_
    obtain ⟨_, T56, Lc56, X56, hQ56, st56⟩ := virtQ X51 hx hZ (y := (⟨"com/example/cardbench/cardbench/Frame", "parityBits", "()I"⟩ : MethodName)) hown (hw _ (List.mem_of_getElem? (i := 41) rfl)) (hw _ (List.mem_of_getElem? (i := 43) rfl)) (hw _ (List.mem_of_getElem? (i := 8) rfl)) (hw _ (List.mem_of_getElem? (i := 45) rfl)) (hw _ (List.mem_of_getElem? (i := 42) rfl)) (hw _ (List.mem_of_getElem? (i := 44) rfl)) (by decide) F47 (argsL := []) (rest := []) (rm7 l Z a0 hw [] fr35 b35 1 (1 : Int32) (bf u1 u2 u3 u4) (8 : Int32) h42 n0 Z42 F45 F46 rfl F52 (by decide)) (W := 0) (by decide) (by decide) e51 (g := (mkF m 66 #[.val (.int u0), .val (.int u1), .val (.int u2), .val (.int u3), .val (.int u4), .val (.int (1 : Int32)), .val (.ref b33), .val (.ref fr35), .unset] [(.ref fr35)])) rfl (by rw [hml]; rfl) (lenOf pd_3 rfl) rfl (by show 2 * 0 + _ ≤ _; exact Nat.le_of_eq rfl) (hb hby at_66) (Nat.le_of_ble_eq_true rfl) (Nat.le_of_ble_eq_true rfl)
    obtain ⟨rfl, N56q, e56⟩ := hQ56
    have N56 := Fr.app N51 N56q
    refine OFin.go st56 ?_
    show OFin p e below _ (T56.setTop (mkF m 69 #[.val (.int u0), .val (.int u1), .val (.int u2), .val (.int u3), .val (.int u4), .val (.int (1 : Int32)), .val (.ref b33), .val (.ref fr35), .unset] [(.int (1 : Int32))]))
    have S57 : ∀ t, Steps p.tables e below (T56.setTop (mkF m 71 #[.val (.int u0), .val (.int u1), .val (.int u2), .val (.int u3), .val (.int u4), .val (.int (1 : Int32)), .val (.ref b33), .val (.ref fr35), .unset] [(.int (1 : Int32)), (.int (1 : Int32))])) t → Steps p.tables e below (T56.setTop (mkF m 69 #[.val (.int u0), .val (.int u1), .val (.int u2), .val (.int u3), .val (.int u4), .val (.int (1 : Int32)), .val (.ref b33), .val (.ref fr35), .unset] [(.int (1 : Int32))])) t := by
      intro t k
      show Steps p.tables e below (T56.setTop (mkF m 69 #[.val (.int u0), .val (.int u1), .val (.int u2), .val (.int u3), .val (.int u4), .val (.int (1 : Int32)), .val (.ref b33), .val (.ref fr35), .unset] [(.int (1 : Int32))])) t
      refine XS.iload X56.here hx rfl (hb hby at_69) rfl ?_
      exact k
    refine OFin.go S57 ?_
    have S58 : ∀ t, Steps p.tables e below (T56.setTop (mkF m 74 #[.val (.int u0), .val (.int u1), .val (.int u2), .val (.int u3), .val (.int u4), .val (.int (1 : Int32)), .val (.ref b33), .val (.ref fr35), .unset] [])) t → Steps p.tables e below (T56.setTop (mkF m 71 #[.val (.int u0), .val (.int u1), .val (.int u2), .val (.int u3), .val (.int u4), .val (.int (1 : Int32)), .val (.ref b33), .val (.ref fr35), .unset] [(.int (1 : Int32)), (.int (1 : Int32))])) t := by
      intro t k
      show Steps p.tables e below (T56.setTop (mkF m 71 #[.val (.int u0), .val (.int u1), .val (.int u2), .val (.int u3), .val (.int u4), .val (.int (1 : Int32)), .val (.ref b33), .val (.ref fr35), .unset] [(.int (1 : Int32)), (.int (1 : Int32))])) t
      refine XS.icmpNo X56.here hx rfl (hb hby at_71) rfl (teq (by decide)).2 ?_
      exact k
    refine OFin.go S58 ?_
    have S59 : ∀ t, Steps p.tables e below (T56.setTop (mkF m 84 #[.val (.int u0), .val (.int u1), .val (.int u2), .val (.int u3), .val (.int u4), .val (.int (1 : Int32)), .val (.ref b33), .val (.ref fr35), .val (.int (1 : Int32))] [(.int (1 : Int32)), (.int (1 : Int32))])) t → Steps p.tables e below (T56.setTop (mkF m 74 #[.val (.int u0), .val (.int u1), .val (.int u2), .val (.int u3), .val (.int u4), .val (.int (1 : Int32)), .val (.ref b33), .val (.ref fr35), .unset] [])) t := by
      intro t k
      show Steps p.tables e below (T56.setTop (mkF m 74 #[.val (.int u0), .val (.int u1), .val (.int u2), .val (.int u3), .val (.int u4), .val (.int (1 : Int32)), .val (.ref b33), .val (.ref fr35), .unset] [])) t
      refine XS.iconst X56.here hx rfl (hb hby at_74) ?_
      show Steps p.tables e below (T56.setTop (mkF m 75 #[.val (.int u0), .val (.int u1), .val (.int u2), .val (.int u3), .val (.int u4), .val (.int (1 : Int32)), .val (.ref b33), .val (.ref fr35), .unset] [(.int (1 : Int32))])) t
      refine XS.goto X56.here hx rfl (pc0 := 75) (pc' := 79) rfl (hb hby at_75) (by decide) (by decide) ?_
      show Steps p.tables e below (T56.setTop (mkF m 79 #[.val (.int u0), .val (.int u1), .val (.int u2), .val (.int u3), .val (.int u4), .val (.int (1 : Int32)), .val (.ref b33), .val (.ref fr35), .unset] [(.int (1 : Int32))])) t
      refine XS.istore X56.here hx rfl (hb hby at_79) rfl (l' := #[.val (.int u0), .val (.int u1), .val (.int u2), .val (.int u3), .val (.int u4), .val (.int (1 : Int32)), .val (.ref b33), .val (.ref fr35), .val (.int (1 : Int32))]) rfl ?_
      show Steps p.tables e below (T56.setTop (mkF m 81 #[.val (.int u0), .val (.int u1), .val (.int u2), .val (.int u3), .val (.int u4), .val (.int (1 : Int32)), .val (.ref b33), .val (.ref fr35), .val (.int (1 : Int32))] [])) t
      refine XS.iload X56.here hx rfl (hb hby at_81) rfl ?_
      show Steps p.tables e below (T56.setTop (mkF m 83 #[.val (.int u0), .val (.int u1), .val (.int u2), .val (.int u3), .val (.int u4), .val (.int (1 : Int32)), .val (.ref b33), .val (.ref fr35), .val (.int (1 : Int32))] [(.int (1 : Int32))])) t
      refine XS.iconst X56.here hx rfl (hb hby at_83) ?_
      exact k
    refine OFin.go S59 ?_
    have S60 : ∀ t, Steps p.tables e below (T56.setTop (mkF m 87 #[.val (.int u0), .val (.int u1), .val (.int u2), .val (.int u3), .val (.int u4), .val (.int (1 : Int32)), .val (.ref b33), .val (.ref fr35), .val (.int (1 : Int32))] [])) t → Steps p.tables e below (T56.setTop (mkF m 84 #[.val (.int u0), .val (.int u1), .val (.int u2), .val (.int u3), .val (.int u4), .val (.int (1 : Int32)), .val (.ref b33), .val (.ref fr35), .val (.int (1 : Int32))] [(.int (1 : Int32)), (.int (1 : Int32))])) t := by
      intro t k
      show Steps p.tables e below (T56.setTop (mkF m 84 #[.val (.int u0), .val (.int u1), .val (.int u2), .val (.int u3), .val (.int u4), .val (.int (1 : Int32)), .val (.ref b33), .val (.ref fr35), .val (.int (1 : Int32))] [(.int (1 : Int32)), (.int (1 : Int32))])) t
      refine XS.icmpNo X56.here hx rfl (hb hby at_84) rfl (flt (by decide)).1 ?_
      exact k
    refine OFin.go S60 ?_
    have S61 : ∀ t, Steps p.tables e below (T56.setTop (mkF m 89 #[.val (.int u0), .val (.int u1), .val (.int u2), .val (.int u3), .val (.int u4), .val (.int (1 : Int32)), .val (.ref b33), .val (.ref fr35), .val (.int (1 : Int32))] [(.int (1 : Int32))])) t → Steps p.tables e below (T56.setTop (mkF m 87 #[.val (.int u0), .val (.int u1), .val (.int u2), .val (.int u3), .val (.int u4), .val (.int (1 : Int32)), .val (.ref b33), .val (.ref fr35), .val (.int (1 : Int32))] [])) t := by
      intro t k
      show Steps p.tables e below (T56.setTop (mkF m 87 #[.val (.int u0), .val (.int u1), .val (.int u2), .val (.int u3), .val (.int u4), .val (.int (1 : Int32)), .val (.ref b33), .val (.ref fr35), .val (.int (1 : Int32))] [])) t
      refine XS.iload X56.here hx rfl (hb hby at_87) rfl ?_
      exact k
    refine OFin.go S61 ?_
    have S62 : ∀ t, Steps p.tables e below (T56.setTop (mkF m 92 #[.val (.int u0), .val (.int u1), .val (.int u2), .val (.int u3), .val (.int u4), .val (.int (1 : Int32)), .val (.ref b33), .val (.ref fr35), .val (.int (1 : Int32))] [])) t → Steps p.tables e below (T56.setTop (mkF m 89 #[.val (.int u0), .val (.int u1), .val (.int u2), .val (.int u3), .val (.int u4), .val (.int (1 : Int32)), .val (.ref b33), .val (.ref fr35), .val (.int (1 : Int32))] [(.int (1 : Int32))])) t := by
      intro t k
      show Steps p.tables e below (T56.setTop (mkF m 89 #[.val (.int u0), .val (.int u1), .val (.int u2), .val (.int u3), .val (.int u4), .val (.int (1 : Int32)), .val (.ref b33), .val (.ref fr35), .val (.int (1 : Int32))] [(.int (1 : Int32))])) t
      refine XS.ifNo X56.here hx rfl (hb hby at_89) rfl ((if0 _ _).trans (feq (by decide)).1) ?_
      exact k
    refine OFin.go S62 ?_
    have S63 : ∀ t, Steps p.tables e below (T56.setTop (mkF m 95 #[.val (.int u0), .val (.int u1), .val (.int u2), .val (.int u3), .val (.int u4), .val (.int (1 : Int32)), .val (.ref b33), .val (.ref fr35), .val (.int (1 : Int32))] [(.int (0 : Int32)), (.ref fr35)])) t → Steps p.tables e below (T56.setTop (mkF m 92 #[.val (.int u0), .val (.int u1), .val (.int u2), .val (.int u3), .val (.int u4), .val (.int (1 : Int32)), .val (.ref b33), .val (.ref fr35), .val (.int (1 : Int32))] [])) t := by
      intro t k
      show Steps p.tables e below (T56.setTop (mkF m 92 #[.val (.int u0), .val (.int u1), .val (.int u2), .val (.int u3), .val (.int u4), .val (.int (1 : Int32)), .val (.ref b33), .val (.ref fr35), .val (.int (1 : Int32))] [])) t
      refine XS.aload X56.here hx rfl (hb hby at_92) rfl rfl ?_
      show Steps p.tables e below (T56.setTop (mkF m 94 #[.val (.int u0), .val (.int u1), .val (.int u2), .val (.int u3), .val (.int u4), .val (.int (1 : Int32)), .val (.ref b33), .val (.ref fr35), .val (.int (1 : Int32))] [(.ref fr35)])) t
      refine XS.iconst X56.here hx rfl (hb hby at_94) ?_
      exact k
    refine OFin.go S63 ?_
    obtain ⟨_, T64, Lc64, X64, hQ64, st64⟩ := virtQ X56 hx hZ (y := (⟨"com/example/cardbench/cardbench/Frame", "get", "(I)I"⟩ : MethodName)) hown (hw _ (List.mem_of_getElem? (i := 46) rfl)) (hw _ (List.mem_of_getElem? (i := 48) rfl)) (hw _ (List.mem_of_getElem? (i := 8) rfl)) (hw _ (List.mem_of_getElem? (i := 50) rfl)) (hw _ (List.mem_of_getElem? (i := 47) rfl)) (hw _ (List.mem_of_getElem? (i := 49) rfl)) (by decide) F47 (argsL := [(.int (0 : Int32))]) (rest := []) (rm8 l Z a0 hw [] fr35 (0 : Int32) b35 1 (bf u1 u2 u3 u4) (u1.toInt8.toInt32) h42 n0 Z42 F45 F46 (by decide) (by decide) rfl) (W := 0) (by decide) (by decide) e56 (g := (mkF m 95 #[.val (.int u0), .val (.int u1), .val (.int u2), .val (.int u3), .val (.int u4), .val (.int (1 : Int32)), .val (.ref b33), .val (.ref fr35), .val (.int (1 : Int32))] [(.int (0 : Int32)), (.ref fr35)])) rfl (by rw [hml]; rfl) (lenOf pd_4 rfl) rfl (by show 2 * 0 + _ ≤ _; exact Nat.le_of_eq rfl) (hb hby at_95) (Nat.le_of_ble_eq_true rfl) (Nat.le_of_ble_eq_true rfl)
    obtain ⟨rfl, N64q, e64⟩ := hQ64
    have N64 := Fr.app N56 N64q
    refine OFin.go st64 ?_
    show OFin p e below _ (T64.setTop (mkF m 98 #[.val (.int u0), .val (.int u1), .val (.int u2), .val (.int u3), .val (.int u4), .val (.int (1 : Int32)), .val (.ref b33), .val (.ref fr35), .val (.int (1 : Int32))] [(.int ((u1.toInt8.toInt32) &&& (255 : Int32)))]))
    have S65 : ∀ t, Steps p.tables e below (T64.setTop (mkF m 103 #[.val (.int u0), .val (.int u1), .val (.int u2), .val (.int u3), .val (.int u4), .val (.int (1 : Int32)), .val (.ref b33), .val (.ref fr35), .val (.int (1 : Int32))] [(.int (u1 &&& (255 : Int32))), (.int ((u1.toInt8.toInt32) &&& (255 : Int32)))])) t → Steps p.tables e below (T64.setTop (mkF m 98 #[.val (.int u0), .val (.int u1), .val (.int u2), .val (.int u3), .val (.int u4), .val (.int (1 : Int32)), .val (.ref b33), .val (.ref fr35), .val (.int (1 : Int32))] [(.int ((u1.toInt8.toInt32) &&& (255 : Int32)))])) t := by
      intro t k
      show Steps p.tables e below (T64.setTop (mkF m 98 #[.val (.int u0), .val (.int u1), .val (.int u2), .val (.int u3), .val (.int u4), .val (.int (1 : Int32)), .val (.ref b33), .val (.ref fr35), .val (.int (1 : Int32))] [(.int ((u1.toInt8.toInt32) &&& (255 : Int32)))])) t
      refine XS.iloadN X64.here hx rfl (hb hby at_98) rfl ?_
      show Steps p.tables e below (T64.setTop (mkF m 99 #[.val (.int u0), .val (.int u1), .val (.int u2), .val (.int u3), .val (.int u4), .val (.int (1 : Int32)), .val (.ref b33), .val (.ref fr35), .val (.int (1 : Int32))] [(.int u1), (.int ((u1.toInt8.toInt32) &&& (255 : Int32)))])) t
      refine XS.sipush X64.here hx rfl (hb hby at_99) ?_
      show Steps p.tables e below (T64.setTop (mkF m 102 #[.val (.int u0), .val (.int u1), .val (.int u2), .val (.int u3), .val (.int u4), .val (.int (1 : Int32)), .val (.ref b33), .val (.ref fr35), .val (.int (1 : Int32))] [(.int (255 : Int32)), (.int u1), (.int ((u1.toInt8.toInt32) &&& (255 : Int32)))])) t
      refine XS.iand X64.here hx rfl (hb hby at_102) rfl ?_
      exact k
    refine OFin.go S65 ?_
    have S66 : ∀ t, Steps p.tables e below (T64.setTop (mkF m 106 #[.val (.int u0), .val (.int u1), .val (.int u2), .val (.int u3), .val (.int u4), .val (.int (1 : Int32)), .val (.ref b33), .val (.ref fr35), .val (.int (1 : Int32))] [])) t → Steps p.tables e below (T64.setTop (mkF m 103 #[.val (.int u0), .val (.int u1), .val (.int u2), .val (.int u3), .val (.int u4), .val (.int (1 : Int32)), .val (.ref b33), .val (.ref fr35), .val (.int (1 : Int32))] [(.int (u1 &&& (255 : Int32))), (.int ((u1.toInt8.toInt32) &&& (255 : Int32)))])) t := by
      intro t k
      show Steps p.tables e below (T64.setTop (mkF m 103 #[.val (.int u0), .val (.int u1), .val (.int u2), .val (.int u3), .val (.int u4), .val (.int (1 : Int32)), .val (.ref b33), .val (.ref fr35), .val (.int (1 : Int32))] [(.int (u1 &&& (255 : Int32))), (.int ((u1.toInt8.toInt32) &&& (255 : Int32)))])) t
      refine XS.icmpNo X64.here hx rfl (hb hby at_103) rfl (teq (own_b _)).2 ?_
      exact k
    refine OFin.go S66 ?_
    have S67 : ∀ t, Steps p.tables e below (T64.setTop (mkF m 116 #[.val (.int u0), .val (.int u1), .val (.int u2), .val (.int u3), .val (.int u4), .val (.int (1 : Int32)), .val (.ref b33), .val (.ref fr35), .val (.int (1 : Int32))] [(.int (2 : Int32)), (.int (1 : Int32))])) t → Steps p.tables e below (T64.setTop (mkF m 106 #[.val (.int u0), .val (.int u1), .val (.int u2), .val (.int u3), .val (.int u4), .val (.int (1 : Int32)), .val (.ref b33), .val (.ref fr35), .val (.int (1 : Int32))] [])) t := by
      intro t k
      show Steps p.tables e below (T64.setTop (mkF m 106 #[.val (.int u0), .val (.int u1), .val (.int u2), .val (.int u3), .val (.int u4), .val (.int (1 : Int32)), .val (.ref b33), .val (.ref fr35), .val (.int (1 : Int32))] [])) t
      refine XS.iconst X64.here hx rfl (hb hby at_106) ?_
      show Steps p.tables e below (T64.setTop (mkF m 107 #[.val (.int u0), .val (.int u1), .val (.int u2), .val (.int u3), .val (.int u4), .val (.int (1 : Int32)), .val (.ref b33), .val (.ref fr35), .val (.int (1 : Int32))] [(.int (1 : Int32))])) t
      refine XS.goto X64.here hx rfl (pc0 := 107) (pc' := 111) rfl (hb hby at_107) (by decide) (by decide) ?_
      show Steps p.tables e below (T64.setTop (mkF m 111 #[.val (.int u0), .val (.int u1), .val (.int u2), .val (.int u3), .val (.int u4), .val (.int (1 : Int32)), .val (.ref b33), .val (.ref fr35), .val (.int (1 : Int32))] [(.int (1 : Int32))])) t
      refine XS.istore X64.here hx rfl (hb hby at_111) rfl (l' := #[.val (.int u0), .val (.int u1), .val (.int u2), .val (.int u3), .val (.int u4), .val (.int (1 : Int32)), .val (.ref b33), .val (.ref fr35), .val (.int (1 : Int32))]) rfl ?_
      show Steps p.tables e below (T64.setTop (mkF m 113 #[.val (.int u0), .val (.int u1), .val (.int u2), .val (.int u3), .val (.int u4), .val (.int (1 : Int32)), .val (.ref b33), .val (.ref fr35), .val (.int (1 : Int32))] [])) t
      refine XS.iload X64.here hx rfl (hb hby at_113) rfl ?_
      show Steps p.tables e below (T64.setTop (mkF m 115 #[.val (.int u0), .val (.int u1), .val (.int u2), .val (.int u3), .val (.int u4), .val (.int (1 : Int32)), .val (.ref b33), .val (.ref fr35), .val (.int (1 : Int32))] [(.int (1 : Int32))])) t
      refine XS.iconst X64.here hx rfl (hb hby at_115) ?_
      exact k
    refine OFin.go S67 ?_
    have S68 : ∀ t, Steps p.tables e below (T64.setTop (mkF m 145 #[.val (.int u0), .val (.int u1), .val (.int u2), .val (.int u3), .val (.int u4), .val (.int (1 : Int32)), .val (.ref b33), .val (.ref fr35), .val (.int (1 : Int32))] [])) t → Steps p.tables e below (T64.setTop (mkF m 116 #[.val (.int u0), .val (.int u1), .val (.int u2), .val (.int u3), .val (.int u4), .val (.int (1 : Int32)), .val (.ref b33), .val (.ref fr35), .val (.int (1 : Int32))] [(.int (2 : Int32)), (.int (1 : Int32))])) t := by
      intro t k
      show Steps p.tables e below (T64.setTop (mkF m 116 #[.val (.int u0), .val (.int u1), .val (.int u2), .val (.int u3), .val (.int u4), .val (.int (1 : Int32)), .val (.ref b33), .val (.ref fr35), .val (.int (1 : Int32))] [(.int (2 : Int32)), (.int (1 : Int32))])) t
      refine XS.icmpYes X64.here hx rfl (pc0 := 116) (pc' := 145) rfl (hb hby at_116) rfl (tlt (by decide)).1 (by decide) (by decide) ?_
      exact k
    refine OFin.go S68 ?_
    have S69 : ∀ t, Steps p.tables e below (T64.setTop (mkF m 148 #[.val (.int u0), .val (.int u1), .val (.int u2), .val (.int u3), .val (.int u4), .val (.int (1 : Int32)), .val (.ref b33), .val (.ref fr35), .val (.int (1 : Int32))] [(.int (3 : Int32)), (.int (1 : Int32))])) t → Steps p.tables e below (T64.setTop (mkF m 145 #[.val (.int u0), .val (.int u1), .val (.int u2), .val (.int u3), .val (.int u4), .val (.int (1 : Int32)), .val (.ref b33), .val (.ref fr35), .val (.int (1 : Int32))] [])) t := by
      intro t k
      show Steps p.tables e below (T64.setTop (mkF m 145 #[.val (.int u0), .val (.int u1), .val (.int u2), .val (.int u3), .val (.int u4), .val (.int (1 : Int32)), .val (.ref b33), .val (.ref fr35), .val (.int (1 : Int32))] [])) t
      refine XS.iload X64.here hx rfl (hb hby at_145) rfl ?_
      show Steps p.tables e below (T64.setTop (mkF m 147 #[.val (.int u0), .val (.int u1), .val (.int u2), .val (.int u3), .val (.int u4), .val (.int (1 : Int32)), .val (.ref b33), .val (.ref fr35), .val (.int (1 : Int32))] [(.int (1 : Int32))])) t
      refine XS.iconst X64.here hx rfl (hb hby at_147) ?_
      exact k
    refine OFin.go S69 ?_
    have S70 : ∀ t, Steps p.tables e below (T64.setTop (mkF m 177 #[.val (.int u0), .val (.int u1), .val (.int u2), .val (.int u3), .val (.int u4), .val (.int (1 : Int32)), .val (.ref b33), .val (.ref fr35), .val (.int (1 : Int32))] [])) t → Steps p.tables e below (T64.setTop (mkF m 148 #[.val (.int u0), .val (.int u1), .val (.int u2), .val (.int u3), .val (.int u4), .val (.int (1 : Int32)), .val (.ref b33), .val (.ref fr35), .val (.int (1 : Int32))] [(.int (3 : Int32)), (.int (1 : Int32))])) t := by
      intro t k
      show Steps p.tables e below (T64.setTop (mkF m 148 #[.val (.int u0), .val (.int u1), .val (.int u2), .val (.int u3), .val (.int u4), .val (.int (1 : Int32)), .val (.ref b33), .val (.ref fr35), .val (.int (1 : Int32))] [(.int (3 : Int32)), (.int (1 : Int32))])) t
      refine XS.icmpYes X64.here hx rfl (pc0 := 148) (pc' := 177) rfl (hb hby at_148) rfl (tlt (by decide)).1 (by decide) (by decide) ?_
      exact k
    refine OFin.go S70 ?_
    have S71 : ∀ t, Steps p.tables e below (T64.setTop (mkF m 180 #[.val (.int u0), .val (.int u1), .val (.int u2), .val (.int u3), .val (.int u4), .val (.int (1 : Int32)), .val (.ref b33), .val (.ref fr35), .val (.int (1 : Int32))] [(.int (4 : Int32)), (.int (1 : Int32))])) t → Steps p.tables e below (T64.setTop (mkF m 177 #[.val (.int u0), .val (.int u1), .val (.int u2), .val (.int u3), .val (.int u4), .val (.int (1 : Int32)), .val (.ref b33), .val (.ref fr35), .val (.int (1 : Int32))] [])) t := by
      intro t k
      show Steps p.tables e below (T64.setTop (mkF m 177 #[.val (.int u0), .val (.int u1), .val (.int u2), .val (.int u3), .val (.int u4), .val (.int (1 : Int32)), .val (.ref b33), .val (.ref fr35), .val (.int (1 : Int32))] [])) t
      refine XS.iload X64.here hx rfl (hb hby at_177) rfl ?_
      show Steps p.tables e below (T64.setTop (mkF m 179 #[.val (.int u0), .val (.int u1), .val (.int u2), .val (.int u3), .val (.int u4), .val (.int (1 : Int32)), .val (.ref b33), .val (.ref fr35), .val (.int (1 : Int32))] [(.int (1 : Int32))])) t
      refine XS.iconst X64.here hx rfl (hb hby at_179) ?_
      exact k
    refine OFin.go S71 ?_
    have S72 : ∀ t, Steps p.tables e below (T64.setTop (mkF m 210 #[.val (.int u0), .val (.int u1), .val (.int u2), .val (.int u3), .val (.int u4), .val (.int (1 : Int32)), .val (.ref b33), .val (.ref fr35), .val (.int (1 : Int32))] [])) t → Steps p.tables e below (T64.setTop (mkF m 180 #[.val (.int u0), .val (.int u1), .val (.int u2), .val (.int u3), .val (.int u4), .val (.int (1 : Int32)), .val (.ref b33), .val (.ref fr35), .val (.int (1 : Int32))] [(.int (4 : Int32)), (.int (1 : Int32))])) t := by
      intro t k
      show Steps p.tables e below (T64.setTop (mkF m 180 #[.val (.int u0), .val (.int u1), .val (.int u2), .val (.int u3), .val (.int u4), .val (.int (1 : Int32)), .val (.ref b33), .val (.ref fr35), .val (.int (1 : Int32))] [(.int (4 : Int32)), (.int (1 : Int32))])) t
      refine XS.icmpYes X64.here hx rfl (pc0 := 180) (pc' := 210) rfl (hb hby at_180) rfl (tlt (by decide)).1 (by decide) (by decide) ?_
      exact k
    refine OFin.go S72 ?_
    have S73 : ∀ t, Steps p.tables e below (T64.setTop (mkF m 212 #[.val (.int u0), .val (.int u1), .val (.int u2), .val (.int u3), .val (.int u4), .val (.int (1 : Int32)), .val (.ref b33), .val (.ref fr35), .val (.int (1 : Int32))] [(.int (1 : Int32))])) t → Steps p.tables e below (T64.setTop (mkF m 210 #[.val (.int u0), .val (.int u1), .val (.int u2), .val (.int u3), .val (.int u4), .val (.int (1 : Int32)), .val (.ref b33), .val (.ref fr35), .val (.int (1 : Int32))] [])) t := by
      intro t k
      show Steps p.tables e below (T64.setTop (mkF m 210 #[.val (.int u0), .val (.int u1), .val (.int u2), .val (.int u3), .val (.int u4), .val (.int (1 : Int32)), .val (.ref b33), .val (.ref fr35), .val (.int (1 : Int32))] [])) t
      refine XS.iload X64.here hx rfl (hb hby at_210) rfl ?_
      exact k
    refine OFin.go S73 ?_
    exact finZ X64 hx Bd.notSynchronized (t := .boolean) Bd.returns (by simp) (hb hby at_212) rfl (by decide) (by decide) (⟨congrArg (fun z => some (Value.int z)) (rfl : (1 : Int32) = (1 : Int32)), N64⟩)
  ·
    subst hkk2'
    show OFin p e below _ (s₁.setTop (mkF m 8 #[.val (.int u0), .val (.int u1), .val (.int u2), .val (.int u3), .val (.int u4), .val (.int (2 : Int32)), .unset, .unset, .unset] []))
    have S74 : ∀ t, Steps p.tables e below (s₁.setTop (mkF m 15 #[.val (.int u0), .val (.int u1), .val (.int u2), .val (.int u3), .val (.int u4), .val (.int (2 : Int32)), .unset, .unset, .unset] [(.int u4), (.int u3), (.int u2), (.int u1), (.int (2 : Int32))])) t → Steps p.tables e below (s₁.setTop (mkF m 8 #[.val (.int u0), .val (.int u1), .val (.int u2), .val (.int u3), .val (.int u4), .val (.int (2 : Int32)), .unset, .unset, .unset] [])) t := by
      intro t k
      show Steps p.tables e below (s₁.setTop (mkF m 8 #[.val (.int u0), .val (.int u1), .val (.int u2), .val (.int u3), .val (.int u4), .val (.int (2 : Int32)), .unset, .unset, .unset] [])) t
      refine XS.iload X0.here hx rfl (hb hby at_8) rfl ?_
      show Steps p.tables e below (s₁.setTop (mkF m 10 #[.val (.int u0), .val (.int u1), .val (.int u2), .val (.int u3), .val (.int u4), .val (.int (2 : Int32)), .unset, .unset, .unset] [(.int (2 : Int32))])) t
      refine XS.iloadN X0.here hx rfl (hb hby at_10) rfl ?_
      show Steps p.tables e below (s₁.setTop (mkF m 11 #[.val (.int u0), .val (.int u1), .val (.int u2), .val (.int u3), .val (.int u4), .val (.int (2 : Int32)), .unset, .unset, .unset] [(.int u1), (.int (2 : Int32))])) t
      refine XS.iloadN X0.here hx rfl (hb hby at_11) rfl ?_
      show Steps p.tables e below (s₁.setTop (mkF m 12 #[.val (.int u0), .val (.int u1), .val (.int u2), .val (.int u3), .val (.int u4), .val (.int (2 : Int32)), .unset, .unset, .unset] [(.int u2), (.int u1), (.int (2 : Int32))])) t
      refine XS.iloadN X0.here hx rfl (hb hby at_12) rfl ?_
      show Steps p.tables e below (s₁.setTop (mkF m 13 #[.val (.int u0), .val (.int u1), .val (.int u2), .val (.int u3), .val (.int u4), .val (.int (2 : Int32)), .unset, .unset, .unset] [(.int u3), (.int u2), (.int u1), (.int (2 : Int32))])) t
      refine XS.iload X0.here hx rfl (hb hby at_13) rfl ?_
      exact k
    refine OFin.go S74 ?_
    obtain ⟨_, T75, Lc75, X75, hQ75, st75⟩ := callQ X0 hx hZ (y := (⟨"com/example/cardbench/cardbench/FrameOfPinLaw", "build", "(IIIII)[B"⟩ : MethodName)) hown (hw _ (List.mem_of_getElem? (i := 1) rfl)) (hw _ (List.mem_of_getElem? (i := 2) rfl)) (hw _ (List.mem_of_getElem? (i := 3) rfl)) (hw _ (List.mem_of_getElem? (i := 4) rfl)) (by decide) (argsL := [(.int (2 : Int32)), (.int u1), (.int u2), (.int u3), (.int u4)]) (rest := []) (rm1_2 l Z a0 hw [] u1 u2 u3 u4 h0 n0 Z0) (W := 0) (by decide) (by decide) e0 (g := (mkF m 15 #[.val (.int u0), .val (.int u1), .val (.int u2), .val (.int u3), .val (.int u4), .val (.int (2 : Int32)), .unset, .unset, .unset] [(.int u4), (.int u3), (.int u2), (.int u1), (.int (2 : Int32))])) rfl (by rw [hml]; rfl) (lenOf pd_1 rfl) rfl (by show 2 * 0 + _ ≤ _; exact Nat.le_of_eq rfl) (hb hby at_15) (Nat.le_of_ble_eq_true rfl) (Nat.le_of_ble_eq_true rfl)
    obtain ⟨b75, rfl, N75q, K75q, hb75, Q75, V75⟩ := hQ75
    have ge75 : n0 ≤ b75 := Nat.le_trans Z0 hb75
    have Z75 : n0 ≤ T75.heap.size := Nat.le_trans Z0 K75q.1
    have N75 := Fr.app N0 N75q
    refine OFin.go st75 ?_
    show OFin p e below _ (T75.setTop (mkF m 18 #[.val (.int u0), .val (.int u1), .val (.int u2), .val (.int u3), .val (.int u4), .val (.int (2 : Int32)), .unset, .unset, .unset] [(.ref b75)]))
    have S76 : ∀ t, Steps p.tables e below (T75.setTop (mkF m 22 #[.val (.int u0), .val (.int u1), .val (.int u2), .val (.int u3), .val (.int u4), .val (.int (2 : Int32)), .val (.ref b75), .unset, .unset] [(.ref b75)])) t → Steps p.tables e below (T75.setTop (mkF m 18 #[.val (.int u0), .val (.int u1), .val (.int u2), .val (.int u3), .val (.int u4), .val (.int (2 : Int32)), .unset, .unset, .unset] [(.ref b75)])) t := by
      intro t k
      show Steps p.tables e below (T75.setTop (mkF m 18 #[.val (.int u0), .val (.int u1), .val (.int u2), .val (.int u3), .val (.int u4), .val (.int (2 : Int32)), .unset, .unset, .unset] [(.ref b75)])) t
      refine XS.astore X75.here hx rfl (hb hby at_18) rfl rfl (l' := #[.val (.int u0), .val (.int u1), .val (.int u2), .val (.int u3), .val (.int u4), .val (.int (2 : Int32)), .val (.ref b75), .unset, .unset]) rfl ?_
      show Steps p.tables e below (T75.setTop (mkF m 20 #[.val (.int u0), .val (.int u1), .val (.int u2), .val (.int u3), .val (.int u4), .val (.int (2 : Int32)), .val (.ref b75), .unset, .unset] [])) t
      refine XS.aload X75.here hx rfl (hb hby at_20) rfl rfl ?_
      exact k
    refine OFin.go S76 ?_
    obtain ⟨_, T77, Lc77, X77, hQ77, st77⟩ := callQ X75 hx hZ (y := (⟨"com/example/cardbench/cardbench/Frame", "of", "([B)Lcom/example/cardbench/cardbench/Frame;"⟩ : MethodName)) hown (hw _ (List.mem_of_getElem? (i := 6) rfl)) (hw _ (List.mem_of_getElem? (i := 7) rfl)) (hw _ (List.mem_of_getElem? (i := 8) rfl)) (hw _ (List.mem_of_getElem? (i := 9) rfl)) (by decide) (argsL := [(.ref b75)]) (rest := []) (rm2 l Z a0 hw [] b75 2 (2 : Int32) (bf u1 u2 u3 u4) T75.heap n0 Z75 V75 Q75 (fun i _ => own_fit _ _ _ _ i) rfl (by decide)) (W := 0) (by decide) (by decide) rfl (g := (mkF m 22 #[.val (.int u0), .val (.int u1), .val (.int u2), .val (.int u3), .val (.int u4), .val (.int (2 : Int32)), .val (.ref b75), .unset, .unset] [(.ref b75)])) rfl (by rw [hml]; rfl) (lenOf pd_2 rfl) rfl (by show 2 * 0 + _ ≤ _; exact Nat.le_of_eq rfl) (hb hby at_22) (Nat.le_of_ble_eq_true rfl) (Nat.le_of_ble_eq_true rfl)
    obtain ⟨fr77, b77, rfl, N77q, K77q, hf77, hb77, ne77, E77, Fb77, Fi77, V77⟩ := hQ77
    have q78 : b75 ≠ fr77 := Nat.ne_of_lt (Nat.lt_of_lt_of_le V75.lt hf77)
    have ge77f : n0 ≤ fr77 := Nat.le_trans Z75 hf77
    have q79 : b75 ≠ b77 := Nat.ne_of_lt (Nat.lt_of_lt_of_le V75.lt hb77)
    have ge77 : n0 ≤ b77 := Nat.le_trans Z75 hb77
    have Z77 : n0 ≤ T77.heap.size := Nat.le_trans Z75 K77q.1
    have N77 := Fr.app N75 N77q
    refine OFin.go st77 ?_
    show OFin p e below _ (T77.setTop (mkF m 25 #[.val (.int u0), .val (.int u1), .val (.int u2), .val (.int u3), .val (.int u4), .val (.int (2 : Int32)), .val (.ref b75), .unset, .unset] [(.ref fr77)]))
    have S80 : ∀ t, Steps p.tables e below (T77.setTop (mkF m 30 #[.val (.int u0), .val (.int u1), .val (.int u2), .val (.int u3), .val (.int u4), .val (.int (2 : Int32)), .val (.ref b75), .val (.ref fr77), .unset] [(.int (1 : Int32)), (.int (2 : Int32))])) t → Steps p.tables e below (T77.setTop (mkF m 25 #[.val (.int u0), .val (.int u1), .val (.int u2), .val (.int u3), .val (.int u4), .val (.int (2 : Int32)), .val (.ref b75), .unset, .unset] [(.ref fr77)])) t := by
      intro t k
      show Steps p.tables e below (T77.setTop (mkF m 25 #[.val (.int u0), .val (.int u1), .val (.int u2), .val (.int u3), .val (.int u4), .val (.int (2 : Int32)), .val (.ref b75), .unset, .unset] [(.ref fr77)])) t
      refine XS.astore X77.here hx rfl (hb hby at_25) rfl rfl (l' := #[.val (.int u0), .val (.int u1), .val (.int u2), .val (.int u3), .val (.int u4), .val (.int (2 : Int32)), .val (.ref b75), .val (.ref fr77), .unset]) rfl ?_
      show Steps p.tables e below (T77.setTop (mkF m 27 #[.val (.int u0), .val (.int u1), .val (.int u2), .val (.int u3), .val (.int u4), .val (.int (2 : Int32)), .val (.ref b75), .val (.ref fr77), .unset] [])) t
      refine XS.iload X77.here hx rfl (hb hby at_27) rfl ?_
      show Steps p.tables e below (T77.setTop (mkF m 29 #[.val (.int u0), .val (.int u1), .val (.int u2), .val (.int u3), .val (.int u4), .val (.int (2 : Int32)), .val (.ref b75), .val (.ref fr77), .unset] [(.int (2 : Int32))])) t
      refine XS.iconst X77.here hx rfl (hb hby at_29) ?_
      exact k
    refine OFin.go S80 ?_
    have S81 : ∀ t, Steps p.tables e below (T77.setTop (mkF m 33 #[.val (.int u0), .val (.int u1), .val (.int u2), .val (.int u3), .val (.int u4), .val (.int (2 : Int32)), .val (.ref b75), .val (.ref fr77), .unset] [])) t → Steps p.tables e below (T77.setTop (mkF m 30 #[.val (.int u0), .val (.int u1), .val (.int u2), .val (.int u3), .val (.int u4), .val (.int (2 : Int32)), .val (.ref b75), .val (.ref fr77), .unset] [(.int (1 : Int32)), (.int (2 : Int32))])) t := by
      intro t k
      show Steps p.tables e below (T77.setTop (mkF m 30 #[.val (.int u0), .val (.int u1), .val (.int u2), .val (.int u3), .val (.int u4), .val (.int (2 : Int32)), .val (.ref b75), .val (.ref fr77), .unset] [(.int (1 : Int32)), (.int (2 : Int32))])) t
      refine XS.icmpNo X77.here hx rfl (hb hby at_30) rfl (flt (by decide)).1 ?_
      exact k
    refine OFin.go S81 ?_
    have S82 : ∀ t, Steps p.tables e below (T77.setTop (mkF m 40 #[.val (.int u0), .val (.int u1), .val (.int u2), .val (.int u3), .val (.int u4), .val (.int (2 : Int32)), .val (.ref b75), .val (.ref fr77), .unset] [(.int ((u1 ^^^ (-1 : Int32)).toInt8.toInt32)), (.int (0 : Int32)), (.ref b75)])) t → Steps p.tables e below (T77.setTop (mkF m 33 #[.val (.int u0), .val (.int u1), .val (.int u2), .val (.int u3), .val (.int u4), .val (.int (2 : Int32)), .val (.ref b75), .val (.ref fr77), .unset] [])) t := by
      intro t k
      show Steps p.tables e below (T77.setTop (mkF m 33 #[.val (.int u0), .val (.int u1), .val (.int u2), .val (.int u3), .val (.int u4), .val (.int (2 : Int32)), .val (.ref b75), .val (.ref fr77), .unset] [])) t
      refine XS.aload X77.here hx rfl (hb hby at_33) rfl rfl ?_
      show Steps p.tables e below (T77.setTop (mkF m 35 #[.val (.int u0), .val (.int u1), .val (.int u2), .val (.int u3), .val (.int u4), .val (.int (2 : Int32)), .val (.ref b75), .val (.ref fr77), .unset] [(.ref b75)])) t
      refine XS.iconst X77.here hx rfl (hb hby at_35) ?_
      show Steps p.tables e below (T77.setTop (mkF m 36 #[.val (.int u0), .val (.int u1), .val (.int u2), .val (.int u3), .val (.int u4), .val (.int (2 : Int32)), .val (.ref b75), .val (.ref fr77), .unset] [(.int (0 : Int32)), (.ref b75)])) t
      refine XS.iloadN X77.here hx rfl (hb hby at_36) rfl ?_
      show Steps p.tables e below (T77.setTop (mkF m 37 #[.val (.int u0), .val (.int u1), .val (.int u2), .val (.int u3), .val (.int u4), .val (.int (2 : Int32)), .val (.ref b75), .val (.ref fr77), .unset] [(.int u1), (.int (0 : Int32)), (.ref b75)])) t
      refine XS.iconst X77.here hx rfl (hb hby at_37) ?_
      show Steps p.tables e below (T77.setTop (mkF m 38 #[.val (.int u0), .val (.int u1), .val (.int u2), .val (.int u3), .val (.int u4), .val (.int (2 : Int32)), .val (.ref b75), .val (.ref fr77), .unset] [(.int (-1 : Int32)), (.int u1), (.int (0 : Int32)), (.ref b75)])) t
      refine XS.ixor X77.here hx rfl (hb hby at_38) rfl ?_
      show Steps p.tables e below (T77.setTop (mkF m 39 #[.val (.int u0), .val (.int u1), .val (.int u2), .val (.int u3), .val (.int u4), .val (.int (2 : Int32)), .val (.ref b75), .val (.ref fr77), .unset] [(.int (u1 ^^^ (-1 : Int32))), (.int (0 : Int32)), (.ref b75)])) t
      refine XS.i2b X77.here hx rfl (hb hby at_39) rfl ?_
      exact k
    refine OFin.go S82 ?_
    have F83 := V75.keep K77q nin0
    obtain ⟨T84, h84, X84, e84, W84, st84⟩ := wrB X77 hx hZ rfl F83 (i := 0) (by decide) rfl (by decide) (y' := ((u1 ^^^ (-1 : Int32)).toInt8.toInt32)) (nar_b _) (g := (mkF m 40 #[.val (.int u0), .val (.int u1), .val (.int u2), .val (.int u3), .val (.int u4), .val (.int (2 : Int32)), .val (.ref b75), .val (.ref fr77), .unset] [(.int ((u1 ^^^ (-1 : Int32)).toInt8.toInt32)), (.int (0 : Int32)), (.ref b75)])) rfl rfl (hb hby at_40)
    have V84 := F83.set W84
    have N84 := Fr.snoc X84 N77 ge75
    have Z84 : n0 ≤ h84.size := Nat.le_trans Z77 (wr_le W84)
    refine OFin.go st84 ?_
    show OFin p e below _ (T84.setTop (mkF m 41 #[.val (.int u0), .val (.int u1), .val (.int u2), .val (.int u3), .val (.int u4), .val (.int (2 : Int32)), .val (.ref b75), .val (.ref fr77), .unset] []))
    have S85 : ∀ t, Steps p.tables e below (T84.setTop (mkF m 43 #[.val (.int u0), .val (.int u1), .val (.int u2), .val (.int u3), .val (.int u4), .val (.int (2 : Int32)), .val (.ref b75), .val (.ref fr77), .unset] [(.ref fr77)])) t → Steps p.tables e below (T84.setTop (mkF m 41 #[.val (.int u0), .val (.int u1), .val (.int u2), .val (.int u3), .val (.int u4), .val (.int (2 : Int32)), .val (.ref b75), .val (.ref fr77), .unset] [])) t := by
      intro t k
      show Steps p.tables e below (T84.setTop (mkF m 41 #[.val (.int u0), .val (.int u1), .val (.int u2), .val (.int u3), .val (.int u4), .val (.int (2 : Int32)), .val (.ref b75), .val (.ref fr77), .unset] [])) t
      refine XS.aload X84.here hx rfl (hb hby at_41) rfl rfl ?_
      exact k
    refine OFin.go S85 ?_
    have F87 := Fb77.other W84 (Or.inl (Ne.symm q78))
    have F88 := V77.other W84 (Ne.symm q79)
    have F89 := E77.wr W84
    obtain ⟨_, T86, Lc86, X86, hQ86, st86⟩ := virtQ X84 hx hZ (y := (⟨"com/example/cardbench/cardbench/Frame", "length", "()I"⟩ : MethodName)) hown (hw _ (List.mem_of_getElem? (i := 31) rfl)) (hw _ (List.mem_of_getElem? (i := 33) rfl)) (hw _ (List.mem_of_getElem? (i := 8) rfl)) (hw _ (List.mem_of_getElem? (i := 35) rfl)) (hw _ (List.mem_of_getElem? (i := 32) rfl)) (hw _ (List.mem_of_getElem? (i := 34) rfl)) (by decide) F89 (argsL := []) (rest := []) (rm5 l Z a0 hw [] fr77 b77 2 (2 : Int32) (bf u1 u2 u3 u4) h84 n0 Z84 F87 F88 rfl) (W := 0) (by decide) (by decide) e84 (g := (mkF m 43 #[.val (.int u0), .val (.int u1), .val (.int u2), .val (.int u3), .val (.int u4), .val (.int (2 : Int32)), .val (.ref b75), .val (.ref fr77), .unset] [(.ref fr77)])) rfl (by rw [hml]; rfl) (lenOf pd_3 rfl) rfl (by show 2 * 0 + _ ≤ _; exact Nat.le_of_eq rfl) (hb hby at_43) (Nat.le_of_ble_eq_true rfl) (Nat.le_of_ble_eq_true rfl)
    obtain ⟨rfl, N86q, e86⟩ := hQ86
    have N86 := Fr.app N84 N86q
    refine OFin.go st86 ?_
    show OFin p e below _ (T86.setTop (mkF m 46 #[.val (.int u0), .val (.int u1), .val (.int u2), .val (.int u3), .val (.int u4), .val (.int (2 : Int32)), .val (.ref b75), .val (.ref fr77), .unset] [(.int (2 : Int32))]))
    have S90 : ∀ t, Steps p.tables e below (T86.setTop (mkF m 48 #[.val (.int u0), .val (.int u1), .val (.int u2), .val (.int u3), .val (.int u4), .val (.int (2 : Int32)), .val (.ref b75), .val (.ref fr77), .unset] [(.int (2 : Int32)), (.int (2 : Int32))])) t → Steps p.tables e below (T86.setTop (mkF m 46 #[.val (.int u0), .val (.int u1), .val (.int u2), .val (.int u3), .val (.int u4), .val (.int (2 : Int32)), .val (.ref b75), .val (.ref fr77), .unset] [(.int (2 : Int32))])) t := by
      intro t k
      show Steps p.tables e below (T86.setTop (mkF m 46 #[.val (.int u0), .val (.int u1), .val (.int u2), .val (.int u3), .val (.int u4), .val (.int (2 : Int32)), .val (.ref b75), .val (.ref fr77), .unset] [(.int (2 : Int32))])) t
      refine XS.iload X86.here hx rfl (hb hby at_46) rfl ?_
      exact k
    refine OFin.go S90 ?_
    have S91 : ∀ t, Steps p.tables e below (T86.setTop (mkF m 51 #[.val (.int u0), .val (.int u1), .val (.int u2), .val (.int u3), .val (.int u4), .val (.int (2 : Int32)), .val (.ref b75), .val (.ref fr77), .unset] [])) t → Steps p.tables e below (T86.setTop (mkF m 48 #[.val (.int u0), .val (.int u1), .val (.int u2), .val (.int u3), .val (.int u4), .val (.int (2 : Int32)), .val (.ref b75), .val (.ref fr77), .unset] [(.int (2 : Int32)), (.int (2 : Int32))])) t := by
      intro t k
      show Steps p.tables e below (T86.setTop (mkF m 48 #[.val (.int u0), .val (.int u1), .val (.int u2), .val (.int u3), .val (.int u4), .val (.int (2 : Int32)), .val (.ref b75), .val (.ref fr77), .unset] [(.int (2 : Int32)), (.int (2 : Int32))])) t
      refine XS.icmpNo X86.here hx rfl (hb hby at_48) rfl (teq (by decide)).2 ?_
      exact k
    refine OFin.go S91 ?_
    have S92 : ∀ t, Steps p.tables e below (T86.setTop (mkF m 53 #[.val (.int u0), .val (.int u1), .val (.int u2), .val (.int u3), .val (.int u4), .val (.int (2 : Int32)), .val (.ref b75), .val (.ref fr77), .unset] [(.ref fr77)])) t → Steps p.tables e below (T86.setTop (mkF m 51 #[.val (.int u0), .val (.int u1), .val (.int u2), .val (.int u3), .val (.int u4), .val (.int (2 : Int32)), .val (.ref b75), .val (.ref fr77), .unset] [])) t := by
      intro t k
      show Steps p.tables e below (T86.setTop (mkF m 51 #[.val (.int u0), .val (.int u1), .val (.int u2), .val (.int u3), .val (.int u4), .val (.int (2 : Int32)), .val (.ref b75), .val (.ref fr77), .unset] [])) t
      refine XS.aload X86.here hx rfl (hb hby at_51) rfl rfl ?_
      exact k
    refine OFin.go S92 ?_
    have F94 := Fi77.other W84 (Or.inl (Ne.symm q78))
    obtain ⟨_, T93, Lc93, X93, hQ93, st93⟩ := virtQ X86 hx hZ (y := (⟨"com/example/cardbench/cardbench/Frame", "bits", "()I"⟩ : MethodName)) hown (hw _ (List.mem_of_getElem? (i := 36) rfl)) (hw _ (List.mem_of_getElem? (i := 38) rfl)) (hw _ (List.mem_of_getElem? (i := 8) rfl)) (hw _ (List.mem_of_getElem? (i := 40) rfl)) (hw _ (List.mem_of_getElem? (i := 37) rfl)) (hw _ (List.mem_of_getElem? (i := 39) rfl)) (by decide) F89 (argsL := []) (rest := []) (rm6 l Z a0 hw [] fr77 (16 : Int32) h84 n0 Z84 F94) (W := 0) (by decide) (by decide) e86 (g := (mkF m 53 #[.val (.int u0), .val (.int u1), .val (.int u2), .val (.int u3), .val (.int u4), .val (.int (2 : Int32)), .val (.ref b75), .val (.ref fr77), .unset] [(.ref fr77)])) rfl (by rw [hml]; rfl) (lenOf pd_3 rfl) rfl (by show 2 * 0 + _ ≤ _; exact Nat.le_of_eq rfl) (hb hby at_53) (Nat.le_of_ble_eq_true rfl) (Nat.le_of_ble_eq_true rfl)
    obtain ⟨rfl, N93q, e93⟩ := hQ93
    have N93 := Fr.app N86 N93q
    refine OFin.go st93 ?_
    show OFin p e below _ (T93.setTop (mkF m 56 #[.val (.int u0), .val (.int u1), .val (.int u2), .val (.int u3), .val (.int u4), .val (.int (2 : Int32)), .val (.ref b75), .val (.ref fr77), .unset] [(.int (16 : Int32))]))
    have S95 : ∀ t, Steps p.tables e below (T93.setTop (mkF m 61 #[.val (.int u0), .val (.int u1), .val (.int u2), .val (.int u3), .val (.int u4), .val (.int (2 : Int32)), .val (.ref b75), .val (.ref fr77), .unset] [(.int (16 : Int32)), (.int (16 : Int32))])) t → Steps p.tables e below (T93.setTop (mkF m 56 #[.val (.int u0), .val (.int u1), .val (.int u2), .val (.int u3), .val (.int u4), .val (.int (2 : Int32)), .val (.ref b75), .val (.ref fr77), .unset] [(.int (16 : Int32))])) t := by
      intro t k
      show Steps p.tables e below (T93.setTop (mkF m 56 #[.val (.int u0), .val (.int u1), .val (.int u2), .val (.int u3), .val (.int u4), .val (.int (2 : Int32)), .val (.ref b75), .val (.ref fr77), .unset] [(.int (16 : Int32))])) t
      refine XS.bipush X93.here hx rfl (hb hby at_56) ?_
      show Steps p.tables e below (T93.setTop (mkF m 58 #[.val (.int u0), .val (.int u1), .val (.int u2), .val (.int u3), .val (.int u4), .val (.int (2 : Int32)), .val (.ref b75), .val (.ref fr77), .unset] [(.int (8 : Int32)), (.int (16 : Int32))])) t
      refine XS.iload X93.here hx rfl (hb hby at_58) rfl ?_
      show Steps p.tables e below (T93.setTop (mkF m 60 #[.val (.int u0), .val (.int u1), .val (.int u2), .val (.int u3), .val (.int u4), .val (.int (2 : Int32)), .val (.ref b75), .val (.ref fr77), .unset] [(.int (2 : Int32)), (.int (8 : Int32)), (.int (16 : Int32))])) t
      refine XS.imul X93.here hx rfl (hb hby at_60) rfl ?_
      exact k
    refine OFin.go S95 ?_
    have S96 : ∀ t, Steps p.tables e below (T93.setTop (mkF m 64 #[.val (.int u0), .val (.int u1), .val (.int u2), .val (.int u3), .val (.int u4), .val (.int (2 : Int32)), .val (.ref b75), .val (.ref fr77), .unset] [])) t → Steps p.tables e below (T93.setTop (mkF m 61 #[.val (.int u0), .val (.int u1), .val (.int u2), .val (.int u3), .val (.int u4), .val (.int (2 : Int32)), .val (.ref b75), .val (.ref fr77), .unset] [(.int (16 : Int32)), (.int (16 : Int32))])) t := by
      intro t k
      show Steps p.tables e below (T93.setTop (mkF m 61 #[.val (.int u0), .val (.int u1), .val (.int u2), .val (.int u3), .val (.int u4), .val (.int (2 : Int32)), .val (.ref b75), .val (.ref fr77), .unset] [(.int (16 : Int32)), (.int (16 : Int32))])) t
      refine XS.icmpNo X93.here hx rfl (hb hby at_61) rfl (teq (by decide)).2 ?_
      exact k
    refine OFin.go S96 ?_
    have S97 : ∀ t, Steps p.tables e below (T93.setTop (mkF m 66 #[.val (.int u0), .val (.int u1), .val (.int u2), .val (.int u3), .val (.int u4), .val (.int (2 : Int32)), .val (.ref b75), .val (.ref fr77), .unset] [(.ref fr77)])) t → Steps p.tables e below (T93.setTop (mkF m 64 #[.val (.int u0), .val (.int u1), .val (.int u2), .val (.int u3), .val (.int u4), .val (.int (2 : Int32)), .val (.ref b75), .val (.ref fr77), .unset] [])) t := by
      intro t k
      show Steps p.tables e below (T93.setTop (mkF m 64 #[.val (.int u0), .val (.int u1), .val (.int u2), .val (.int u3), .val (.int u4), .val (.int (2 : Int32)), .val (.ref b75), .val (.ref fr77), .unset] [])) t
      refine XS.aload X93.here hx rfl (hb hby at_64) rfl rfl ?_
      exact k
    refine OFin.go S97 ?_
    obtain ⟨_, T98, Lc98, X98, hQ98, st98⟩ := virtQ X93 hx hZ (y := (⟨"com/example/cardbench/cardbench/Frame", "parityBits", "()I"⟩ : MethodName)) hown (hw _ (List.mem_of_getElem? (i := 41) rfl)) (hw _ (List.mem_of_getElem? (i := 43) rfl)) (hw _ (List.mem_of_getElem? (i := 8) rfl)) (hw _ (List.mem_of_getElem? (i := 45) rfl)) (hw _ (List.mem_of_getElem? (i := 42) rfl)) (hw _ (List.mem_of_getElem? (i := 44) rfl)) (by decide) F89 (argsL := []) (rest := []) (rm7 l Z a0 hw [] fr77 b77 2 (2 : Int32) (bf u1 u2 u3 u4) (16 : Int32) h84 n0 Z84 F87 F88 rfl F94 (by decide)) (W := 0) (by decide) (by decide) e93 (g := (mkF m 66 #[.val (.int u0), .val (.int u1), .val (.int u2), .val (.int u3), .val (.int u4), .val (.int (2 : Int32)), .val (.ref b75), .val (.ref fr77), .unset] [(.ref fr77)])) rfl (by rw [hml]; rfl) (lenOf pd_3 rfl) rfl (by show 2 * 0 + _ ≤ _; exact Nat.le_of_eq rfl) (hb hby at_66) (Nat.le_of_ble_eq_true rfl) (Nat.le_of_ble_eq_true rfl)
    obtain ⟨rfl, N98q, e98⟩ := hQ98
    have N98 := Fr.app N93 N98q
    refine OFin.go st98 ?_
    show OFin p e below _ (T98.setTop (mkF m 69 #[.val (.int u0), .val (.int u1), .val (.int u2), .val (.int u3), .val (.int u4), .val (.int (2 : Int32)), .val (.ref b75), .val (.ref fr77), .unset] [(.int (2 : Int32))]))
    have S99 : ∀ t, Steps p.tables e below (T98.setTop (mkF m 71 #[.val (.int u0), .val (.int u1), .val (.int u2), .val (.int u3), .val (.int u4), .val (.int (2 : Int32)), .val (.ref b75), .val (.ref fr77), .unset] [(.int (2 : Int32)), (.int (2 : Int32))])) t → Steps p.tables e below (T98.setTop (mkF m 69 #[.val (.int u0), .val (.int u1), .val (.int u2), .val (.int u3), .val (.int u4), .val (.int (2 : Int32)), .val (.ref b75), .val (.ref fr77), .unset] [(.int (2 : Int32))])) t := by
      intro t k
      show Steps p.tables e below (T98.setTop (mkF m 69 #[.val (.int u0), .val (.int u1), .val (.int u2), .val (.int u3), .val (.int u4), .val (.int (2 : Int32)), .val (.ref b75), .val (.ref fr77), .unset] [(.int (2 : Int32))])) t
      refine XS.iload X98.here hx rfl (hb hby at_69) rfl ?_
      exact k
    refine OFin.go S99 ?_
    have S100 : ∀ t, Steps p.tables e below (T98.setTop (mkF m 74 #[.val (.int u0), .val (.int u1), .val (.int u2), .val (.int u3), .val (.int u4), .val (.int (2 : Int32)), .val (.ref b75), .val (.ref fr77), .unset] [])) t → Steps p.tables e below (T98.setTop (mkF m 71 #[.val (.int u0), .val (.int u1), .val (.int u2), .val (.int u3), .val (.int u4), .val (.int (2 : Int32)), .val (.ref b75), .val (.ref fr77), .unset] [(.int (2 : Int32)), (.int (2 : Int32))])) t := by
      intro t k
      show Steps p.tables e below (T98.setTop (mkF m 71 #[.val (.int u0), .val (.int u1), .val (.int u2), .val (.int u3), .val (.int u4), .val (.int (2 : Int32)), .val (.ref b75), .val (.ref fr77), .unset] [(.int (2 : Int32)), (.int (2 : Int32))])) t
      refine XS.icmpNo X98.here hx rfl (hb hby at_71) rfl (teq (by decide)).2 ?_
      exact k
    refine OFin.go S100 ?_
    have S101 : ∀ t, Steps p.tables e below (T98.setTop (mkF m 84 #[.val (.int u0), .val (.int u1), .val (.int u2), .val (.int u3), .val (.int u4), .val (.int (2 : Int32)), .val (.ref b75), .val (.ref fr77), .val (.int (1 : Int32))] [(.int (1 : Int32)), (.int (2 : Int32))])) t → Steps p.tables e below (T98.setTop (mkF m 74 #[.val (.int u0), .val (.int u1), .val (.int u2), .val (.int u3), .val (.int u4), .val (.int (2 : Int32)), .val (.ref b75), .val (.ref fr77), .unset] [])) t := by
      intro t k
      show Steps p.tables e below (T98.setTop (mkF m 74 #[.val (.int u0), .val (.int u1), .val (.int u2), .val (.int u3), .val (.int u4), .val (.int (2 : Int32)), .val (.ref b75), .val (.ref fr77), .unset] [])) t
      refine XS.iconst X98.here hx rfl (hb hby at_74) ?_
      show Steps p.tables e below (T98.setTop (mkF m 75 #[.val (.int u0), .val (.int u1), .val (.int u2), .val (.int u3), .val (.int u4), .val (.int (2 : Int32)), .val (.ref b75), .val (.ref fr77), .unset] [(.int (1 : Int32))])) t
      refine XS.goto X98.here hx rfl (pc0 := 75) (pc' := 79) rfl (hb hby at_75) (by decide) (by decide) ?_
      show Steps p.tables e below (T98.setTop (mkF m 79 #[.val (.int u0), .val (.int u1), .val (.int u2), .val (.int u3), .val (.int u4), .val (.int (2 : Int32)), .val (.ref b75), .val (.ref fr77), .unset] [(.int (1 : Int32))])) t
      refine XS.istore X98.here hx rfl (hb hby at_79) rfl (l' := #[.val (.int u0), .val (.int u1), .val (.int u2), .val (.int u3), .val (.int u4), .val (.int (2 : Int32)), .val (.ref b75), .val (.ref fr77), .val (.int (1 : Int32))]) rfl ?_
      show Steps p.tables e below (T98.setTop (mkF m 81 #[.val (.int u0), .val (.int u1), .val (.int u2), .val (.int u3), .val (.int u4), .val (.int (2 : Int32)), .val (.ref b75), .val (.ref fr77), .val (.int (1 : Int32))] [])) t
      refine XS.iload X98.here hx rfl (hb hby at_81) rfl ?_
      show Steps p.tables e below (T98.setTop (mkF m 83 #[.val (.int u0), .val (.int u1), .val (.int u2), .val (.int u3), .val (.int u4), .val (.int (2 : Int32)), .val (.ref b75), .val (.ref fr77), .val (.int (1 : Int32))] [(.int (2 : Int32))])) t
      refine XS.iconst X98.here hx rfl (hb hby at_83) ?_
      exact k
    refine OFin.go S101 ?_
    have S102 : ∀ t, Steps p.tables e below (T98.setTop (mkF m 87 #[.val (.int u0), .val (.int u1), .val (.int u2), .val (.int u3), .val (.int u4), .val (.int (2 : Int32)), .val (.ref b75), .val (.ref fr77), .val (.int (1 : Int32))] [])) t → Steps p.tables e below (T98.setTop (mkF m 84 #[.val (.int u0), .val (.int u1), .val (.int u2), .val (.int u3), .val (.int u4), .val (.int (2 : Int32)), .val (.ref b75), .val (.ref fr77), .val (.int (1 : Int32))] [(.int (1 : Int32)), (.int (2 : Int32))])) t := by
      intro t k
      show Steps p.tables e below (T98.setTop (mkF m 84 #[.val (.int u0), .val (.int u1), .val (.int u2), .val (.int u3), .val (.int u4), .val (.int (2 : Int32)), .val (.ref b75), .val (.ref fr77), .val (.int (1 : Int32))] [(.int (1 : Int32)), (.int (2 : Int32))])) t
      refine XS.icmpNo X98.here hx rfl (hb hby at_84) rfl (flt (by decide)).1 ?_
      exact k
    refine OFin.go S102 ?_
    have S103 : ∀ t, Steps p.tables e below (T98.setTop (mkF m 89 #[.val (.int u0), .val (.int u1), .val (.int u2), .val (.int u3), .val (.int u4), .val (.int (2 : Int32)), .val (.ref b75), .val (.ref fr77), .val (.int (1 : Int32))] [(.int (1 : Int32))])) t → Steps p.tables e below (T98.setTop (mkF m 87 #[.val (.int u0), .val (.int u1), .val (.int u2), .val (.int u3), .val (.int u4), .val (.int (2 : Int32)), .val (.ref b75), .val (.ref fr77), .val (.int (1 : Int32))] [])) t := by
      intro t k
      show Steps p.tables e below (T98.setTop (mkF m 87 #[.val (.int u0), .val (.int u1), .val (.int u2), .val (.int u3), .val (.int u4), .val (.int (2 : Int32)), .val (.ref b75), .val (.ref fr77), .val (.int (1 : Int32))] [])) t
      refine XS.iload X98.here hx rfl (hb hby at_87) rfl ?_
      exact k
    refine OFin.go S103 ?_
    have S104 : ∀ t, Steps p.tables e below (T98.setTop (mkF m 92 #[.val (.int u0), .val (.int u1), .val (.int u2), .val (.int u3), .val (.int u4), .val (.int (2 : Int32)), .val (.ref b75), .val (.ref fr77), .val (.int (1 : Int32))] [])) t → Steps p.tables e below (T98.setTop (mkF m 89 #[.val (.int u0), .val (.int u1), .val (.int u2), .val (.int u3), .val (.int u4), .val (.int (2 : Int32)), .val (.ref b75), .val (.ref fr77), .val (.int (1 : Int32))] [(.int (1 : Int32))])) t := by
      intro t k
      show Steps p.tables e below (T98.setTop (mkF m 89 #[.val (.int u0), .val (.int u1), .val (.int u2), .val (.int u3), .val (.int u4), .val (.int (2 : Int32)), .val (.ref b75), .val (.ref fr77), .val (.int (1 : Int32))] [(.int (1 : Int32))])) t
      refine XS.ifNo X98.here hx rfl (hb hby at_89) rfl ((if0 _ _).trans (feq (by decide)).1) ?_
      exact k
    refine OFin.go S104 ?_
    have S105 : ∀ t, Steps p.tables e below (T98.setTop (mkF m 95 #[.val (.int u0), .val (.int u1), .val (.int u2), .val (.int u3), .val (.int u4), .val (.int (2 : Int32)), .val (.ref b75), .val (.ref fr77), .val (.int (1 : Int32))] [(.int (0 : Int32)), (.ref fr77)])) t → Steps p.tables e below (T98.setTop (mkF m 92 #[.val (.int u0), .val (.int u1), .val (.int u2), .val (.int u3), .val (.int u4), .val (.int (2 : Int32)), .val (.ref b75), .val (.ref fr77), .val (.int (1 : Int32))] [])) t := by
      intro t k
      show Steps p.tables e below (T98.setTop (mkF m 92 #[.val (.int u0), .val (.int u1), .val (.int u2), .val (.int u3), .val (.int u4), .val (.int (2 : Int32)), .val (.ref b75), .val (.ref fr77), .val (.int (1 : Int32))] [])) t
      refine XS.aload X98.here hx rfl (hb hby at_92) rfl rfl ?_
      show Steps p.tables e below (T98.setTop (mkF m 94 #[.val (.int u0), .val (.int u1), .val (.int u2), .val (.int u3), .val (.int u4), .val (.int (2 : Int32)), .val (.ref b75), .val (.ref fr77), .val (.int (1 : Int32))] [(.ref fr77)])) t
      refine XS.iconst X98.here hx rfl (hb hby at_94) ?_
      exact k
    refine OFin.go S105 ?_
    obtain ⟨_, T106, Lc106, X106, hQ106, st106⟩ := virtQ X98 hx hZ (y := (⟨"com/example/cardbench/cardbench/Frame", "get", "(I)I"⟩ : MethodName)) hown (hw _ (List.mem_of_getElem? (i := 46) rfl)) (hw _ (List.mem_of_getElem? (i := 48) rfl)) (hw _ (List.mem_of_getElem? (i := 8) rfl)) (hw _ (List.mem_of_getElem? (i := 50) rfl)) (hw _ (List.mem_of_getElem? (i := 47) rfl)) (hw _ (List.mem_of_getElem? (i := 49) rfl)) (by decide) F89 (argsL := [(.int (0 : Int32))]) (rest := []) (rm8 l Z a0 hw [] fr77 (0 : Int32) b77 2 (bf u1 u2 u3 u4) (u1.toInt8.toInt32) h84 n0 Z84 F87 F88 (by decide) (by decide) rfl) (W := 0) (by decide) (by decide) e98 (g := (mkF m 95 #[.val (.int u0), .val (.int u1), .val (.int u2), .val (.int u3), .val (.int u4), .val (.int (2 : Int32)), .val (.ref b75), .val (.ref fr77), .val (.int (1 : Int32))] [(.int (0 : Int32)), (.ref fr77)])) rfl (by rw [hml]; rfl) (lenOf pd_4 rfl) rfl (by show 2 * 0 + _ ≤ _; exact Nat.le_of_eq rfl) (hb hby at_95) (Nat.le_of_ble_eq_true rfl) (Nat.le_of_ble_eq_true rfl)
    obtain ⟨rfl, N106q, e106⟩ := hQ106
    have N106 := Fr.app N98 N106q
    refine OFin.go st106 ?_
    show OFin p e below _ (T106.setTop (mkF m 98 #[.val (.int u0), .val (.int u1), .val (.int u2), .val (.int u3), .val (.int u4), .val (.int (2 : Int32)), .val (.ref b75), .val (.ref fr77), .val (.int (1 : Int32))] [(.int ((u1.toInt8.toInt32) &&& (255 : Int32)))]))
    have S107 : ∀ t, Steps p.tables e below (T106.setTop (mkF m 103 #[.val (.int u0), .val (.int u1), .val (.int u2), .val (.int u3), .val (.int u4), .val (.int (2 : Int32)), .val (.ref b75), .val (.ref fr77), .val (.int (1 : Int32))] [(.int (u1 &&& (255 : Int32))), (.int ((u1.toInt8.toInt32) &&& (255 : Int32)))])) t → Steps p.tables e below (T106.setTop (mkF m 98 #[.val (.int u0), .val (.int u1), .val (.int u2), .val (.int u3), .val (.int u4), .val (.int (2 : Int32)), .val (.ref b75), .val (.ref fr77), .val (.int (1 : Int32))] [(.int ((u1.toInt8.toInt32) &&& (255 : Int32)))])) t := by
      intro t k
      show Steps p.tables e below (T106.setTop (mkF m 98 #[.val (.int u0), .val (.int u1), .val (.int u2), .val (.int u3), .val (.int u4), .val (.int (2 : Int32)), .val (.ref b75), .val (.ref fr77), .val (.int (1 : Int32))] [(.int ((u1.toInt8.toInt32) &&& (255 : Int32)))])) t
      refine XS.iloadN X106.here hx rfl (hb hby at_98) rfl ?_
      show Steps p.tables e below (T106.setTop (mkF m 99 #[.val (.int u0), .val (.int u1), .val (.int u2), .val (.int u3), .val (.int u4), .val (.int (2 : Int32)), .val (.ref b75), .val (.ref fr77), .val (.int (1 : Int32))] [(.int u1), (.int ((u1.toInt8.toInt32) &&& (255 : Int32)))])) t
      refine XS.sipush X106.here hx rfl (hb hby at_99) ?_
      show Steps p.tables e below (T106.setTop (mkF m 102 #[.val (.int u0), .val (.int u1), .val (.int u2), .val (.int u3), .val (.int u4), .val (.int (2 : Int32)), .val (.ref b75), .val (.ref fr77), .val (.int (1 : Int32))] [(.int (255 : Int32)), (.int u1), (.int ((u1.toInt8.toInt32) &&& (255 : Int32)))])) t
      refine XS.iand X106.here hx rfl (hb hby at_102) rfl ?_
      exact k
    refine OFin.go S107 ?_
    have S108 : ∀ t, Steps p.tables e below (T106.setTop (mkF m 106 #[.val (.int u0), .val (.int u1), .val (.int u2), .val (.int u3), .val (.int u4), .val (.int (2 : Int32)), .val (.ref b75), .val (.ref fr77), .val (.int (1 : Int32))] [])) t → Steps p.tables e below (T106.setTop (mkF m 103 #[.val (.int u0), .val (.int u1), .val (.int u2), .val (.int u3), .val (.int u4), .val (.int (2 : Int32)), .val (.ref b75), .val (.ref fr77), .val (.int (1 : Int32))] [(.int (u1 &&& (255 : Int32))), (.int ((u1.toInt8.toInt32) &&& (255 : Int32)))])) t := by
      intro t k
      show Steps p.tables e below (T106.setTop (mkF m 103 #[.val (.int u0), .val (.int u1), .val (.int u2), .val (.int u3), .val (.int u4), .val (.int (2 : Int32)), .val (.ref b75), .val (.ref fr77), .val (.int (1 : Int32))] [(.int (u1 &&& (255 : Int32))), (.int ((u1.toInt8.toInt32) &&& (255 : Int32)))])) t
      refine XS.icmpNo X106.here hx rfl (hb hby at_103) rfl (teq (own_b _)).2 ?_
      exact k
    refine OFin.go S108 ?_
    have S109 : ∀ t, Steps p.tables e below (T106.setTop (mkF m 116 #[.val (.int u0), .val (.int u1), .val (.int u2), .val (.int u3), .val (.int u4), .val (.int (2 : Int32)), .val (.ref b75), .val (.ref fr77), .val (.int (1 : Int32))] [(.int (2 : Int32)), (.int (2 : Int32))])) t → Steps p.tables e below (T106.setTop (mkF m 106 #[.val (.int u0), .val (.int u1), .val (.int u2), .val (.int u3), .val (.int u4), .val (.int (2 : Int32)), .val (.ref b75), .val (.ref fr77), .val (.int (1 : Int32))] [])) t := by
      intro t k
      show Steps p.tables e below (T106.setTop (mkF m 106 #[.val (.int u0), .val (.int u1), .val (.int u2), .val (.int u3), .val (.int u4), .val (.int (2 : Int32)), .val (.ref b75), .val (.ref fr77), .val (.int (1 : Int32))] [])) t
      refine XS.iconst X106.here hx rfl (hb hby at_106) ?_
      show Steps p.tables e below (T106.setTop (mkF m 107 #[.val (.int u0), .val (.int u1), .val (.int u2), .val (.int u3), .val (.int u4), .val (.int (2 : Int32)), .val (.ref b75), .val (.ref fr77), .val (.int (1 : Int32))] [(.int (1 : Int32))])) t
      refine XS.goto X106.here hx rfl (pc0 := 107) (pc' := 111) rfl (hb hby at_107) (by decide) (by decide) ?_
      show Steps p.tables e below (T106.setTop (mkF m 111 #[.val (.int u0), .val (.int u1), .val (.int u2), .val (.int u3), .val (.int u4), .val (.int (2 : Int32)), .val (.ref b75), .val (.ref fr77), .val (.int (1 : Int32))] [(.int (1 : Int32))])) t
      refine XS.istore X106.here hx rfl (hb hby at_111) rfl (l' := #[.val (.int u0), .val (.int u1), .val (.int u2), .val (.int u3), .val (.int u4), .val (.int (2 : Int32)), .val (.ref b75), .val (.ref fr77), .val (.int (1 : Int32))]) rfl ?_
      show Steps p.tables e below (T106.setTop (mkF m 113 #[.val (.int u0), .val (.int u1), .val (.int u2), .val (.int u3), .val (.int u4), .val (.int (2 : Int32)), .val (.ref b75), .val (.ref fr77), .val (.int (1 : Int32))] [])) t
      refine XS.iload X106.here hx rfl (hb hby at_113) rfl ?_
      show Steps p.tables e below (T106.setTop (mkF m 115 #[.val (.int u0), .val (.int u1), .val (.int u2), .val (.int u3), .val (.int u4), .val (.int (2 : Int32)), .val (.ref b75), .val (.ref fr77), .val (.int (1 : Int32))] [(.int (2 : Int32))])) t
      refine XS.iconst X106.here hx rfl (hb hby at_115) ?_
      exact k
    refine OFin.go S109 ?_
    have S110 : ∀ t, Steps p.tables e below (T106.setTop (mkF m 119 #[.val (.int u0), .val (.int u1), .val (.int u2), .val (.int u3), .val (.int u4), .val (.int (2 : Int32)), .val (.ref b75), .val (.ref fr77), .val (.int (1 : Int32))] [])) t → Steps p.tables e below (T106.setTop (mkF m 116 #[.val (.int u0), .val (.int u1), .val (.int u2), .val (.int u3), .val (.int u4), .val (.int (2 : Int32)), .val (.ref b75), .val (.ref fr77), .val (.int (1 : Int32))] [(.int (2 : Int32)), (.int (2 : Int32))])) t := by
      intro t k
      show Steps p.tables e below (T106.setTop (mkF m 116 #[.val (.int u0), .val (.int u1), .val (.int u2), .val (.int u3), .val (.int u4), .val (.int (2 : Int32)), .val (.ref b75), .val (.ref fr77), .val (.int (1 : Int32))] [(.int (2 : Int32)), (.int (2 : Int32))])) t
      refine XS.icmpNo X106.here hx rfl (hb hby at_116) rfl (flt (by decide)).1 ?_
      exact k
    refine OFin.go S110 ?_
    have S111 : ∀ t, Steps p.tables e below (T106.setTop (mkF m 121 #[.val (.int u0), .val (.int u1), .val (.int u2), .val (.int u3), .val (.int u4), .val (.int (2 : Int32)), .val (.ref b75), .val (.ref fr77), .val (.int (1 : Int32))] [(.int (1 : Int32))])) t → Steps p.tables e below (T106.setTop (mkF m 119 #[.val (.int u0), .val (.int u1), .val (.int u2), .val (.int u3), .val (.int u4), .val (.int (2 : Int32)), .val (.ref b75), .val (.ref fr77), .val (.int (1 : Int32))] [])) t := by
      intro t k
      show Steps p.tables e below (T106.setTop (mkF m 119 #[.val (.int u0), .val (.int u1), .val (.int u2), .val (.int u3), .val (.int u4), .val (.int (2 : Int32)), .val (.ref b75), .val (.ref fr77), .val (.int (1 : Int32))] [])) t
      refine XS.iload X106.here hx rfl (hb hby at_119) rfl ?_
      exact k
    refine OFin.go S111 ?_
    have S112 : ∀ t, Steps p.tables e below (T106.setTop (mkF m 124 #[.val (.int u0), .val (.int u1), .val (.int u2), .val (.int u3), .val (.int u4), .val (.int (2 : Int32)), .val (.ref b75), .val (.ref fr77), .val (.int (1 : Int32))] [])) t → Steps p.tables e below (T106.setTop (mkF m 121 #[.val (.int u0), .val (.int u1), .val (.int u2), .val (.int u3), .val (.int u4), .val (.int (2 : Int32)), .val (.ref b75), .val (.ref fr77), .val (.int (1 : Int32))] [(.int (1 : Int32))])) t := by
      intro t k
      show Steps p.tables e below (T106.setTop (mkF m 121 #[.val (.int u0), .val (.int u1), .val (.int u2), .val (.int u3), .val (.int u4), .val (.int (2 : Int32)), .val (.ref b75), .val (.ref fr77), .val (.int (1 : Int32))] [(.int (1 : Int32))])) t
      refine XS.ifNo X106.here hx rfl (hb hby at_121) rfl ((if0 _ _).trans (feq (by decide)).1) ?_
      exact k
    refine OFin.go S112 ?_
    have S113 : ∀ t, Steps p.tables e below (T106.setTop (mkF m 127 #[.val (.int u0), .val (.int u1), .val (.int u2), .val (.int u3), .val (.int u4), .val (.int (2 : Int32)), .val (.ref b75), .val (.ref fr77), .val (.int (1 : Int32))] [(.int (1 : Int32)), (.ref fr77)])) t → Steps p.tables e below (T106.setTop (mkF m 124 #[.val (.int u0), .val (.int u1), .val (.int u2), .val (.int u3), .val (.int u4), .val (.int (2 : Int32)), .val (.ref b75), .val (.ref fr77), .val (.int (1 : Int32))] [])) t := by
      intro t k
      show Steps p.tables e below (T106.setTop (mkF m 124 #[.val (.int u0), .val (.int u1), .val (.int u2), .val (.int u3), .val (.int u4), .val (.int (2 : Int32)), .val (.ref b75), .val (.ref fr77), .val (.int (1 : Int32))] [])) t
      refine XS.aload X106.here hx rfl (hb hby at_124) rfl rfl ?_
      show Steps p.tables e below (T106.setTop (mkF m 126 #[.val (.int u0), .val (.int u1), .val (.int u2), .val (.int u3), .val (.int u4), .val (.int (2 : Int32)), .val (.ref b75), .val (.ref fr77), .val (.int (1 : Int32))] [(.ref fr77)])) t
      refine XS.iconst X106.here hx rfl (hb hby at_126) ?_
      exact k
    refine OFin.go S113 ?_
    obtain ⟨_, T114, Lc114, X114, hQ114, st114⟩ := virtQ X106 hx hZ (y := (⟨"com/example/cardbench/cardbench/Frame", "get", "(I)I"⟩ : MethodName)) hown (hw _ (List.mem_of_getElem? (i := 46) rfl)) (hw _ (List.mem_of_getElem? (i := 48) rfl)) (hw _ (List.mem_of_getElem? (i := 8) rfl)) (hw _ (List.mem_of_getElem? (i := 50) rfl)) (hw _ (List.mem_of_getElem? (i := 47) rfl)) (hw _ (List.mem_of_getElem? (i := 49) rfl)) (by decide) F89 (argsL := [(.int (1 : Int32))]) (rest := []) (rm8 l Z a0 hw [] fr77 (1 : Int32) b77 2 (bf u1 u2 u3 u4) (u2.toInt8.toInt32) h84 n0 Z84 F87 F88 (by decide) (by decide) rfl) (W := 0) (by decide) (by decide) e106 (g := (mkF m 127 #[.val (.int u0), .val (.int u1), .val (.int u2), .val (.int u3), .val (.int u4), .val (.int (2 : Int32)), .val (.ref b75), .val (.ref fr77), .val (.int (1 : Int32))] [(.int (1 : Int32)), (.ref fr77)])) rfl (by rw [hml]; rfl) (lenOf pd_4 rfl) rfl (by show 2 * 0 + _ ≤ _; exact Nat.le_of_eq rfl) (hb hby at_127) (Nat.le_of_ble_eq_true rfl) (Nat.le_of_ble_eq_true rfl)
    obtain ⟨rfl, N114q, e114⟩ := hQ114
    have N114 := Fr.app N106 N114q
    refine OFin.go st114 ?_
    show OFin p e below _ (T114.setTop (mkF m 130 #[.val (.int u0), .val (.int u1), .val (.int u2), .val (.int u3), .val (.int u4), .val (.int (2 : Int32)), .val (.ref b75), .val (.ref fr77), .val (.int (1 : Int32))] [(.int ((u2.toInt8.toInt32) &&& (255 : Int32)))]))
    have S115 : ∀ t, Steps p.tables e below (T114.setTop (mkF m 135 #[.val (.int u0), .val (.int u1), .val (.int u2), .val (.int u3), .val (.int u4), .val (.int (2 : Int32)), .val (.ref b75), .val (.ref fr77), .val (.int (1 : Int32))] [(.int (u2 &&& (255 : Int32))), (.int ((u2.toInt8.toInt32) &&& (255 : Int32)))])) t → Steps p.tables e below (T114.setTop (mkF m 130 #[.val (.int u0), .val (.int u1), .val (.int u2), .val (.int u3), .val (.int u4), .val (.int (2 : Int32)), .val (.ref b75), .val (.ref fr77), .val (.int (1 : Int32))] [(.int ((u2.toInt8.toInt32) &&& (255 : Int32)))])) t := by
      intro t k
      show Steps p.tables e below (T114.setTop (mkF m 130 #[.val (.int u0), .val (.int u1), .val (.int u2), .val (.int u3), .val (.int u4), .val (.int (2 : Int32)), .val (.ref b75), .val (.ref fr77), .val (.int (1 : Int32))] [(.int ((u2.toInt8.toInt32) &&& (255 : Int32)))])) t
      refine XS.iloadN X114.here hx rfl (hb hby at_130) rfl ?_
      show Steps p.tables e below (T114.setTop (mkF m 131 #[.val (.int u0), .val (.int u1), .val (.int u2), .val (.int u3), .val (.int u4), .val (.int (2 : Int32)), .val (.ref b75), .val (.ref fr77), .val (.int (1 : Int32))] [(.int u2), (.int ((u2.toInt8.toInt32) &&& (255 : Int32)))])) t
      refine XS.sipush X114.here hx rfl (hb hby at_131) ?_
      show Steps p.tables e below (T114.setTop (mkF m 134 #[.val (.int u0), .val (.int u1), .val (.int u2), .val (.int u3), .val (.int u4), .val (.int (2 : Int32)), .val (.ref b75), .val (.ref fr77), .val (.int (1 : Int32))] [(.int (255 : Int32)), (.int u2), (.int ((u2.toInt8.toInt32) &&& (255 : Int32)))])) t
      refine XS.iand X114.here hx rfl (hb hby at_134) rfl ?_
      exact k
    refine OFin.go S115 ?_
    have S116 : ∀ t, Steps p.tables e below (T114.setTop (mkF m 138 #[.val (.int u0), .val (.int u1), .val (.int u2), .val (.int u3), .val (.int u4), .val (.int (2 : Int32)), .val (.ref b75), .val (.ref fr77), .val (.int (1 : Int32))] [])) t → Steps p.tables e below (T114.setTop (mkF m 135 #[.val (.int u0), .val (.int u1), .val (.int u2), .val (.int u3), .val (.int u4), .val (.int (2 : Int32)), .val (.ref b75), .val (.ref fr77), .val (.int (1 : Int32))] [(.int (u2 &&& (255 : Int32))), (.int ((u2.toInt8.toInt32) &&& (255 : Int32)))])) t := by
      intro t k
      show Steps p.tables e below (T114.setTop (mkF m 135 #[.val (.int u0), .val (.int u1), .val (.int u2), .val (.int u3), .val (.int u4), .val (.int (2 : Int32)), .val (.ref b75), .val (.ref fr77), .val (.int (1 : Int32))] [(.int (u2 &&& (255 : Int32))), (.int ((u2.toInt8.toInt32) &&& (255 : Int32)))])) t
      refine XS.icmpNo X114.here hx rfl (hb hby at_135) rfl (teq (own_b _)).2 ?_
      exact k
    refine OFin.go S116 ?_
    have S117 : ∀ t, Steps p.tables e below (T114.setTop (mkF m 148 #[.val (.int u0), .val (.int u1), .val (.int u2), .val (.int u3), .val (.int u4), .val (.int (2 : Int32)), .val (.ref b75), .val (.ref fr77), .val (.int (1 : Int32))] [(.int (3 : Int32)), (.int (2 : Int32))])) t → Steps p.tables e below (T114.setTop (mkF m 138 #[.val (.int u0), .val (.int u1), .val (.int u2), .val (.int u3), .val (.int u4), .val (.int (2 : Int32)), .val (.ref b75), .val (.ref fr77), .val (.int (1 : Int32))] [])) t := by
      intro t k
      show Steps p.tables e below (T114.setTop (mkF m 138 #[.val (.int u0), .val (.int u1), .val (.int u2), .val (.int u3), .val (.int u4), .val (.int (2 : Int32)), .val (.ref b75), .val (.ref fr77), .val (.int (1 : Int32))] [])) t
      refine XS.iconst X114.here hx rfl (hb hby at_138) ?_
      show Steps p.tables e below (T114.setTop (mkF m 139 #[.val (.int u0), .val (.int u1), .val (.int u2), .val (.int u3), .val (.int u4), .val (.int (2 : Int32)), .val (.ref b75), .val (.ref fr77), .val (.int (1 : Int32))] [(.int (1 : Int32))])) t
      refine XS.goto X114.here hx rfl (pc0 := 139) (pc' := 143) rfl (hb hby at_139) (by decide) (by decide) ?_
      show Steps p.tables e below (T114.setTop (mkF m 143 #[.val (.int u0), .val (.int u1), .val (.int u2), .val (.int u3), .val (.int u4), .val (.int (2 : Int32)), .val (.ref b75), .val (.ref fr77), .val (.int (1 : Int32))] [(.int (1 : Int32))])) t
      refine XS.istore X114.here hx rfl (hb hby at_143) rfl (l' := #[.val (.int u0), .val (.int u1), .val (.int u2), .val (.int u3), .val (.int u4), .val (.int (2 : Int32)), .val (.ref b75), .val (.ref fr77), .val (.int (1 : Int32))]) rfl ?_
      show Steps p.tables e below (T114.setTop (mkF m 145 #[.val (.int u0), .val (.int u1), .val (.int u2), .val (.int u3), .val (.int u4), .val (.int (2 : Int32)), .val (.ref b75), .val (.ref fr77), .val (.int (1 : Int32))] [])) t
      refine XS.iload X114.here hx rfl (hb hby at_145) rfl ?_
      show Steps p.tables e below (T114.setTop (mkF m 147 #[.val (.int u0), .val (.int u1), .val (.int u2), .val (.int u3), .val (.int u4), .val (.int (2 : Int32)), .val (.ref b75), .val (.ref fr77), .val (.int (1 : Int32))] [(.int (2 : Int32))])) t
      refine XS.iconst X114.here hx rfl (hb hby at_147) ?_
      exact k
    refine OFin.go S117 ?_
    have S118 : ∀ t, Steps p.tables e below (T114.setTop (mkF m 177 #[.val (.int u0), .val (.int u1), .val (.int u2), .val (.int u3), .val (.int u4), .val (.int (2 : Int32)), .val (.ref b75), .val (.ref fr77), .val (.int (1 : Int32))] [])) t → Steps p.tables e below (T114.setTop (mkF m 148 #[.val (.int u0), .val (.int u1), .val (.int u2), .val (.int u3), .val (.int u4), .val (.int (2 : Int32)), .val (.ref b75), .val (.ref fr77), .val (.int (1 : Int32))] [(.int (3 : Int32)), (.int (2 : Int32))])) t := by
      intro t k
      show Steps p.tables e below (T114.setTop (mkF m 148 #[.val (.int u0), .val (.int u1), .val (.int u2), .val (.int u3), .val (.int u4), .val (.int (2 : Int32)), .val (.ref b75), .val (.ref fr77), .val (.int (1 : Int32))] [(.int (3 : Int32)), (.int (2 : Int32))])) t
      refine XS.icmpYes X114.here hx rfl (pc0 := 148) (pc' := 177) rfl (hb hby at_148) rfl (tlt (by decide)).1 (by decide) (by decide) ?_
      exact k
    refine OFin.go S118 ?_
    have S119 : ∀ t, Steps p.tables e below (T114.setTop (mkF m 180 #[.val (.int u0), .val (.int u1), .val (.int u2), .val (.int u3), .val (.int u4), .val (.int (2 : Int32)), .val (.ref b75), .val (.ref fr77), .val (.int (1 : Int32))] [(.int (4 : Int32)), (.int (2 : Int32))])) t → Steps p.tables e below (T114.setTop (mkF m 177 #[.val (.int u0), .val (.int u1), .val (.int u2), .val (.int u3), .val (.int u4), .val (.int (2 : Int32)), .val (.ref b75), .val (.ref fr77), .val (.int (1 : Int32))] [])) t := by
      intro t k
      show Steps p.tables e below (T114.setTop (mkF m 177 #[.val (.int u0), .val (.int u1), .val (.int u2), .val (.int u3), .val (.int u4), .val (.int (2 : Int32)), .val (.ref b75), .val (.ref fr77), .val (.int (1 : Int32))] [])) t
      refine XS.iload X114.here hx rfl (hb hby at_177) rfl ?_
      show Steps p.tables e below (T114.setTop (mkF m 179 #[.val (.int u0), .val (.int u1), .val (.int u2), .val (.int u3), .val (.int u4), .val (.int (2 : Int32)), .val (.ref b75), .val (.ref fr77), .val (.int (1 : Int32))] [(.int (2 : Int32))])) t
      refine XS.iconst X114.here hx rfl (hb hby at_179) ?_
      exact k
    refine OFin.go S119 ?_
    have S120 : ∀ t, Steps p.tables e below (T114.setTop (mkF m 210 #[.val (.int u0), .val (.int u1), .val (.int u2), .val (.int u3), .val (.int u4), .val (.int (2 : Int32)), .val (.ref b75), .val (.ref fr77), .val (.int (1 : Int32))] [])) t → Steps p.tables e below (T114.setTop (mkF m 180 #[.val (.int u0), .val (.int u1), .val (.int u2), .val (.int u3), .val (.int u4), .val (.int (2 : Int32)), .val (.ref b75), .val (.ref fr77), .val (.int (1 : Int32))] [(.int (4 : Int32)), (.int (2 : Int32))])) t := by
      intro t k
      show Steps p.tables e below (T114.setTop (mkF m 180 #[.val (.int u0), .val (.int u1), .val (.int u2), .val (.int u3), .val (.int u4), .val (.int (2 : Int32)), .val (.ref b75), .val (.ref fr77), .val (.int (1 : Int32))] [(.int (4 : Int32)), (.int (2 : Int32))])) t
      refine XS.icmpYes X114.here hx rfl (pc0 := 180) (pc' := 210) rfl (hb hby at_180) rfl (tlt (by decide)).1 (by decide) (by decide) ?_
      exact k
    refine OFin.go S120 ?_
    have S121 : ∀ t, Steps p.tables e below (T114.setTop (mkF m 212 #[.val (.int u0), .val (.int u1), .val (.int u2), .val (.int u3), .val (.int u4), .val (.int (2 : Int32)), .val (.ref b75), .val (.ref fr77), .val (.int (1 : Int32))] [(.int (1 : Int32))])) t → Steps p.tables e below (T114.setTop (mkF m 210 #[.val (.int u0), .val (.int u1), .val (.int u2), .val (.int u3), .val (.int u4), .val (.int (2 : Int32)), .val (.ref b75), .val (.ref fr77), .val (.int (1 : Int32))] [])) t := by
      intro t k
      show Steps p.tables e below (T114.setTop (mkF m 210 #[.val (.int u0), .val (.int u1), .val (.int u2), .val (.int u3), .val (.int u4), .val (.int (2 : Int32)), .val (.ref b75), .val (.ref fr77), .val (.int (1 : Int32))] [])) t
      refine XS.iload X114.here hx rfl (hb hby at_210) rfl ?_
      exact k
    refine OFin.go S121 ?_
    exact finZ X114 hx Bd.notSynchronized (t := .boolean) Bd.returns (by simp) (hb hby at_212) rfl (by decide) (by decide) (⟨congrArg (fun z => some (Value.int z)) (rfl : (1 : Int32) = (1 : Int32)), N114⟩)
  ·
    subst hkk2'
    show OFin p e below _ (s₁.setTop (mkF m 8 #[.val (.int u0), .val (.int u1), .val (.int u2), .val (.int u3), .val (.int u4), .val (.int (3 : Int32)), .unset, .unset, .unset] []))
    have S122 : ∀ t, Steps p.tables e below (s₁.setTop (mkF m 15 #[.val (.int u0), .val (.int u1), .val (.int u2), .val (.int u3), .val (.int u4), .val (.int (3 : Int32)), .unset, .unset, .unset] [(.int u4), (.int u3), (.int u2), (.int u1), (.int (3 : Int32))])) t → Steps p.tables e below (s₁.setTop (mkF m 8 #[.val (.int u0), .val (.int u1), .val (.int u2), .val (.int u3), .val (.int u4), .val (.int (3 : Int32)), .unset, .unset, .unset] [])) t := by
      intro t k
      show Steps p.tables e below (s₁.setTop (mkF m 8 #[.val (.int u0), .val (.int u1), .val (.int u2), .val (.int u3), .val (.int u4), .val (.int (3 : Int32)), .unset, .unset, .unset] [])) t
      refine XS.iload X0.here hx rfl (hb hby at_8) rfl ?_
      show Steps p.tables e below (s₁.setTop (mkF m 10 #[.val (.int u0), .val (.int u1), .val (.int u2), .val (.int u3), .val (.int u4), .val (.int (3 : Int32)), .unset, .unset, .unset] [(.int (3 : Int32))])) t
      refine XS.iloadN X0.here hx rfl (hb hby at_10) rfl ?_
      show Steps p.tables e below (s₁.setTop (mkF m 11 #[.val (.int u0), .val (.int u1), .val (.int u2), .val (.int u3), .val (.int u4), .val (.int (3 : Int32)), .unset, .unset, .unset] [(.int u1), (.int (3 : Int32))])) t
      refine XS.iloadN X0.here hx rfl (hb hby at_11) rfl ?_
      show Steps p.tables e below (s₁.setTop (mkF m 12 #[.val (.int u0), .val (.int u1), .val (.int u2), .val (.int u3), .val (.int u4), .val (.int (3 : Int32)), .unset, .unset, .unset] [(.int u2), (.int u1), (.int (3 : Int32))])) t
      refine XS.iloadN X0.here hx rfl (hb hby at_12) rfl ?_
      show Steps p.tables e below (s₁.setTop (mkF m 13 #[.val (.int u0), .val (.int u1), .val (.int u2), .val (.int u3), .val (.int u4), .val (.int (3 : Int32)), .unset, .unset, .unset] [(.int u3), (.int u2), (.int u1), (.int (3 : Int32))])) t
      refine XS.iload X0.here hx rfl (hb hby at_13) rfl ?_
      exact k
    refine OFin.go S122 ?_
    obtain ⟨_, T123, Lc123, X123, hQ123, st123⟩ := callQ X0 hx hZ (y := (⟨"com/example/cardbench/cardbench/FrameOfPinLaw", "build", "(IIIII)[B"⟩ : MethodName)) hown (hw _ (List.mem_of_getElem? (i := 1) rfl)) (hw _ (List.mem_of_getElem? (i := 2) rfl)) (hw _ (List.mem_of_getElem? (i := 3) rfl)) (hw _ (List.mem_of_getElem? (i := 4) rfl)) (by decide) (argsL := [(.int (3 : Int32)), (.int u1), (.int u2), (.int u3), (.int u4)]) (rest := []) (rm1_3 l Z a0 hw [] u1 u2 u3 u4 h0 n0 Z0) (W := 0) (by decide) (by decide) e0 (g := (mkF m 15 #[.val (.int u0), .val (.int u1), .val (.int u2), .val (.int u3), .val (.int u4), .val (.int (3 : Int32)), .unset, .unset, .unset] [(.int u4), (.int u3), (.int u2), (.int u1), (.int (3 : Int32))])) rfl (by rw [hml]; rfl) (lenOf pd_1 rfl) rfl (by show 2 * 0 + _ ≤ _; exact Nat.le_of_eq rfl) (hb hby at_15) (Nat.le_of_ble_eq_true rfl) (Nat.le_of_ble_eq_true rfl)
    obtain ⟨b123, rfl, N123q, K123q, hb123, Q123, V123⟩ := hQ123
    have ge123 : n0 ≤ b123 := Nat.le_trans Z0 hb123
    have Z123 : n0 ≤ T123.heap.size := Nat.le_trans Z0 K123q.1
    have N123 := Fr.app N0 N123q
    refine OFin.go st123 ?_
    show OFin p e below _ (T123.setTop (mkF m 18 #[.val (.int u0), .val (.int u1), .val (.int u2), .val (.int u3), .val (.int u4), .val (.int (3 : Int32)), .unset, .unset, .unset] [(.ref b123)]))
    have S124 : ∀ t, Steps p.tables e below (T123.setTop (mkF m 22 #[.val (.int u0), .val (.int u1), .val (.int u2), .val (.int u3), .val (.int u4), .val (.int (3 : Int32)), .val (.ref b123), .unset, .unset] [(.ref b123)])) t → Steps p.tables e below (T123.setTop (mkF m 18 #[.val (.int u0), .val (.int u1), .val (.int u2), .val (.int u3), .val (.int u4), .val (.int (3 : Int32)), .unset, .unset, .unset] [(.ref b123)])) t := by
      intro t k
      show Steps p.tables e below (T123.setTop (mkF m 18 #[.val (.int u0), .val (.int u1), .val (.int u2), .val (.int u3), .val (.int u4), .val (.int (3 : Int32)), .unset, .unset, .unset] [(.ref b123)])) t
      refine XS.astore X123.here hx rfl (hb hby at_18) rfl rfl (l' := #[.val (.int u0), .val (.int u1), .val (.int u2), .val (.int u3), .val (.int u4), .val (.int (3 : Int32)), .val (.ref b123), .unset, .unset]) rfl ?_
      show Steps p.tables e below (T123.setTop (mkF m 20 #[.val (.int u0), .val (.int u1), .val (.int u2), .val (.int u3), .val (.int u4), .val (.int (3 : Int32)), .val (.ref b123), .unset, .unset] [])) t
      refine XS.aload X123.here hx rfl (hb hby at_20) rfl rfl ?_
      exact k
    refine OFin.go S124 ?_
    obtain ⟨_, T125, Lc125, X125, hQ125, st125⟩ := callQ X123 hx hZ (y := (⟨"com/example/cardbench/cardbench/Frame", "of", "([B)Lcom/example/cardbench/cardbench/Frame;"⟩ : MethodName)) hown (hw _ (List.mem_of_getElem? (i := 6) rfl)) (hw _ (List.mem_of_getElem? (i := 7) rfl)) (hw _ (List.mem_of_getElem? (i := 8) rfl)) (hw _ (List.mem_of_getElem? (i := 9) rfl)) (by decide) (argsL := [(.ref b123)]) (rest := []) (rm2 l Z a0 hw [] b123 3 (3 : Int32) (bf u1 u2 u3 u4) T123.heap n0 Z123 V123 Q123 (fun i _ => own_fit _ _ _ _ i) rfl (by decide)) (W := 0) (by decide) (by decide) rfl (g := (mkF m 22 #[.val (.int u0), .val (.int u1), .val (.int u2), .val (.int u3), .val (.int u4), .val (.int (3 : Int32)), .val (.ref b123), .unset, .unset] [(.ref b123)])) rfl (by rw [hml]; rfl) (lenOf pd_2 rfl) rfl (by show 2 * 0 + _ ≤ _; exact Nat.le_of_eq rfl) (hb hby at_22) (Nat.le_of_ble_eq_true rfl) (Nat.le_of_ble_eq_true rfl)
    obtain ⟨fr125, b125, rfl, N125q, K125q, hf125, hb125, ne125, E125, Fb125, Fi125, V125⟩ := hQ125
    have q126 : b123 ≠ fr125 := Nat.ne_of_lt (Nat.lt_of_lt_of_le V123.lt hf125)
    have ge125f : n0 ≤ fr125 := Nat.le_trans Z123 hf125
    have q127 : b123 ≠ b125 := Nat.ne_of_lt (Nat.lt_of_lt_of_le V123.lt hb125)
    have ge125 : n0 ≤ b125 := Nat.le_trans Z123 hb125
    have Z125 : n0 ≤ T125.heap.size := Nat.le_trans Z123 K125q.1
    have N125 := Fr.app N123 N125q
    refine OFin.go st125 ?_
    show OFin p e below _ (T125.setTop (mkF m 25 #[.val (.int u0), .val (.int u1), .val (.int u2), .val (.int u3), .val (.int u4), .val (.int (3 : Int32)), .val (.ref b123), .unset, .unset] [(.ref fr125)]))
    have S128 : ∀ t, Steps p.tables e below (T125.setTop (mkF m 30 #[.val (.int u0), .val (.int u1), .val (.int u2), .val (.int u3), .val (.int u4), .val (.int (3 : Int32)), .val (.ref b123), .val (.ref fr125), .unset] [(.int (1 : Int32)), (.int (3 : Int32))])) t → Steps p.tables e below (T125.setTop (mkF m 25 #[.val (.int u0), .val (.int u1), .val (.int u2), .val (.int u3), .val (.int u4), .val (.int (3 : Int32)), .val (.ref b123), .unset, .unset] [(.ref fr125)])) t := by
      intro t k
      show Steps p.tables e below (T125.setTop (mkF m 25 #[.val (.int u0), .val (.int u1), .val (.int u2), .val (.int u3), .val (.int u4), .val (.int (3 : Int32)), .val (.ref b123), .unset, .unset] [(.ref fr125)])) t
      refine XS.astore X125.here hx rfl (hb hby at_25) rfl rfl (l' := #[.val (.int u0), .val (.int u1), .val (.int u2), .val (.int u3), .val (.int u4), .val (.int (3 : Int32)), .val (.ref b123), .val (.ref fr125), .unset]) rfl ?_
      show Steps p.tables e below (T125.setTop (mkF m 27 #[.val (.int u0), .val (.int u1), .val (.int u2), .val (.int u3), .val (.int u4), .val (.int (3 : Int32)), .val (.ref b123), .val (.ref fr125), .unset] [])) t
      refine XS.iload X125.here hx rfl (hb hby at_27) rfl ?_
      show Steps p.tables e below (T125.setTop (mkF m 29 #[.val (.int u0), .val (.int u1), .val (.int u2), .val (.int u3), .val (.int u4), .val (.int (3 : Int32)), .val (.ref b123), .val (.ref fr125), .unset] [(.int (3 : Int32))])) t
      refine XS.iconst X125.here hx rfl (hb hby at_29) ?_
      exact k
    refine OFin.go S128 ?_
    have S129 : ∀ t, Steps p.tables e below (T125.setTop (mkF m 33 #[.val (.int u0), .val (.int u1), .val (.int u2), .val (.int u3), .val (.int u4), .val (.int (3 : Int32)), .val (.ref b123), .val (.ref fr125), .unset] [])) t → Steps p.tables e below (T125.setTop (mkF m 30 #[.val (.int u0), .val (.int u1), .val (.int u2), .val (.int u3), .val (.int u4), .val (.int (3 : Int32)), .val (.ref b123), .val (.ref fr125), .unset] [(.int (1 : Int32)), (.int (3 : Int32))])) t := by
      intro t k
      show Steps p.tables e below (T125.setTop (mkF m 30 #[.val (.int u0), .val (.int u1), .val (.int u2), .val (.int u3), .val (.int u4), .val (.int (3 : Int32)), .val (.ref b123), .val (.ref fr125), .unset] [(.int (1 : Int32)), (.int (3 : Int32))])) t
      refine XS.icmpNo X125.here hx rfl (hb hby at_30) rfl (flt (by decide)).1 ?_
      exact k
    refine OFin.go S129 ?_
    have S130 : ∀ t, Steps p.tables e below (T125.setTop (mkF m 40 #[.val (.int u0), .val (.int u1), .val (.int u2), .val (.int u3), .val (.int u4), .val (.int (3 : Int32)), .val (.ref b123), .val (.ref fr125), .unset] [(.int ((u1 ^^^ (-1 : Int32)).toInt8.toInt32)), (.int (0 : Int32)), (.ref b123)])) t → Steps p.tables e below (T125.setTop (mkF m 33 #[.val (.int u0), .val (.int u1), .val (.int u2), .val (.int u3), .val (.int u4), .val (.int (3 : Int32)), .val (.ref b123), .val (.ref fr125), .unset] [])) t := by
      intro t k
      show Steps p.tables e below (T125.setTop (mkF m 33 #[.val (.int u0), .val (.int u1), .val (.int u2), .val (.int u3), .val (.int u4), .val (.int (3 : Int32)), .val (.ref b123), .val (.ref fr125), .unset] [])) t
      refine XS.aload X125.here hx rfl (hb hby at_33) rfl rfl ?_
      show Steps p.tables e below (T125.setTop (mkF m 35 #[.val (.int u0), .val (.int u1), .val (.int u2), .val (.int u3), .val (.int u4), .val (.int (3 : Int32)), .val (.ref b123), .val (.ref fr125), .unset] [(.ref b123)])) t
      refine XS.iconst X125.here hx rfl (hb hby at_35) ?_
      show Steps p.tables e below (T125.setTop (mkF m 36 #[.val (.int u0), .val (.int u1), .val (.int u2), .val (.int u3), .val (.int u4), .val (.int (3 : Int32)), .val (.ref b123), .val (.ref fr125), .unset] [(.int (0 : Int32)), (.ref b123)])) t
      refine XS.iloadN X125.here hx rfl (hb hby at_36) rfl ?_
      show Steps p.tables e below (T125.setTop (mkF m 37 #[.val (.int u0), .val (.int u1), .val (.int u2), .val (.int u3), .val (.int u4), .val (.int (3 : Int32)), .val (.ref b123), .val (.ref fr125), .unset] [(.int u1), (.int (0 : Int32)), (.ref b123)])) t
      refine XS.iconst X125.here hx rfl (hb hby at_37) ?_
      show Steps p.tables e below (T125.setTop (mkF m 38 #[.val (.int u0), .val (.int u1), .val (.int u2), .val (.int u3), .val (.int u4), .val (.int (3 : Int32)), .val (.ref b123), .val (.ref fr125), .unset] [(.int (-1 : Int32)), (.int u1), (.int (0 : Int32)), (.ref b123)])) t
      refine XS.ixor X125.here hx rfl (hb hby at_38) rfl ?_
      show Steps p.tables e below (T125.setTop (mkF m 39 #[.val (.int u0), .val (.int u1), .val (.int u2), .val (.int u3), .val (.int u4), .val (.int (3 : Int32)), .val (.ref b123), .val (.ref fr125), .unset] [(.int (u1 ^^^ (-1 : Int32))), (.int (0 : Int32)), (.ref b123)])) t
      refine XS.i2b X125.here hx rfl (hb hby at_39) rfl ?_
      exact k
    refine OFin.go S130 ?_
    have F131 := V123.keep K125q nin0
    obtain ⟨T132, h132, X132, e132, W132, st132⟩ := wrB X125 hx hZ rfl F131 (i := 0) (by decide) rfl (by decide) (y' := ((u1 ^^^ (-1 : Int32)).toInt8.toInt32)) (nar_b _) (g := (mkF m 40 #[.val (.int u0), .val (.int u1), .val (.int u2), .val (.int u3), .val (.int u4), .val (.int (3 : Int32)), .val (.ref b123), .val (.ref fr125), .unset] [(.int ((u1 ^^^ (-1 : Int32)).toInt8.toInt32)), (.int (0 : Int32)), (.ref b123)])) rfl rfl (hb hby at_40)
    have V132 := F131.set W132
    have N132 := Fr.snoc X132 N125 ge123
    have Z132 : n0 ≤ h132.size := Nat.le_trans Z125 (wr_le W132)
    refine OFin.go st132 ?_
    show OFin p e below _ (T132.setTop (mkF m 41 #[.val (.int u0), .val (.int u1), .val (.int u2), .val (.int u3), .val (.int u4), .val (.int (3 : Int32)), .val (.ref b123), .val (.ref fr125), .unset] []))
    have S133 : ∀ t, Steps p.tables e below (T132.setTop (mkF m 43 #[.val (.int u0), .val (.int u1), .val (.int u2), .val (.int u3), .val (.int u4), .val (.int (3 : Int32)), .val (.ref b123), .val (.ref fr125), .unset] [(.ref fr125)])) t → Steps p.tables e below (T132.setTop (mkF m 41 #[.val (.int u0), .val (.int u1), .val (.int u2), .val (.int u3), .val (.int u4), .val (.int (3 : Int32)), .val (.ref b123), .val (.ref fr125), .unset] [])) t := by
      intro t k
      show Steps p.tables e below (T132.setTop (mkF m 41 #[.val (.int u0), .val (.int u1), .val (.int u2), .val (.int u3), .val (.int u4), .val (.int (3 : Int32)), .val (.ref b123), .val (.ref fr125), .unset] [])) t
      refine XS.aload X132.here hx rfl (hb hby at_41) rfl rfl ?_
      exact k
    refine OFin.go S133 ?_
    have F135 := Fb125.other W132 (Or.inl (Ne.symm q126))
    have F136 := V125.other W132 (Ne.symm q127)
    have F137 := E125.wr W132
    obtain ⟨_, T134, Lc134, X134, hQ134, st134⟩ := virtQ X132 hx hZ (y := (⟨"com/example/cardbench/cardbench/Frame", "length", "()I"⟩ : MethodName)) hown (hw _ (List.mem_of_getElem? (i := 31) rfl)) (hw _ (List.mem_of_getElem? (i := 33) rfl)) (hw _ (List.mem_of_getElem? (i := 8) rfl)) (hw _ (List.mem_of_getElem? (i := 35) rfl)) (hw _ (List.mem_of_getElem? (i := 32) rfl)) (hw _ (List.mem_of_getElem? (i := 34) rfl)) (by decide) F137 (argsL := []) (rest := []) (rm5 l Z a0 hw [] fr125 b125 3 (3 : Int32) (bf u1 u2 u3 u4) h132 n0 Z132 F135 F136 rfl) (W := 0) (by decide) (by decide) e132 (g := (mkF m 43 #[.val (.int u0), .val (.int u1), .val (.int u2), .val (.int u3), .val (.int u4), .val (.int (3 : Int32)), .val (.ref b123), .val (.ref fr125), .unset] [(.ref fr125)])) rfl (by rw [hml]; rfl) (lenOf pd_3 rfl) rfl (by show 2 * 0 + _ ≤ _; exact Nat.le_of_eq rfl) (hb hby at_43) (Nat.le_of_ble_eq_true rfl) (Nat.le_of_ble_eq_true rfl)
    obtain ⟨rfl, N134q, e134⟩ := hQ134
    have N134 := Fr.app N132 N134q
    refine OFin.go st134 ?_
    show OFin p e below _ (T134.setTop (mkF m 46 #[.val (.int u0), .val (.int u1), .val (.int u2), .val (.int u3), .val (.int u4), .val (.int (3 : Int32)), .val (.ref b123), .val (.ref fr125), .unset] [(.int (3 : Int32))]))
    have S138 : ∀ t, Steps p.tables e below (T134.setTop (mkF m 48 #[.val (.int u0), .val (.int u1), .val (.int u2), .val (.int u3), .val (.int u4), .val (.int (3 : Int32)), .val (.ref b123), .val (.ref fr125), .unset] [(.int (3 : Int32)), (.int (3 : Int32))])) t → Steps p.tables e below (T134.setTop (mkF m 46 #[.val (.int u0), .val (.int u1), .val (.int u2), .val (.int u3), .val (.int u4), .val (.int (3 : Int32)), .val (.ref b123), .val (.ref fr125), .unset] [(.int (3 : Int32))])) t := by
      intro t k
      show Steps p.tables e below (T134.setTop (mkF m 46 #[.val (.int u0), .val (.int u1), .val (.int u2), .val (.int u3), .val (.int u4), .val (.int (3 : Int32)), .val (.ref b123), .val (.ref fr125), .unset] [(.int (3 : Int32))])) t
      refine XS.iload X134.here hx rfl (hb hby at_46) rfl ?_
      exact k
    refine OFin.go S138 ?_
    have S139 : ∀ t, Steps p.tables e below (T134.setTop (mkF m 51 #[.val (.int u0), .val (.int u1), .val (.int u2), .val (.int u3), .val (.int u4), .val (.int (3 : Int32)), .val (.ref b123), .val (.ref fr125), .unset] [])) t → Steps p.tables e below (T134.setTop (mkF m 48 #[.val (.int u0), .val (.int u1), .val (.int u2), .val (.int u3), .val (.int u4), .val (.int (3 : Int32)), .val (.ref b123), .val (.ref fr125), .unset] [(.int (3 : Int32)), (.int (3 : Int32))])) t := by
      intro t k
      show Steps p.tables e below (T134.setTop (mkF m 48 #[.val (.int u0), .val (.int u1), .val (.int u2), .val (.int u3), .val (.int u4), .val (.int (3 : Int32)), .val (.ref b123), .val (.ref fr125), .unset] [(.int (3 : Int32)), (.int (3 : Int32))])) t
      refine XS.icmpNo X134.here hx rfl (hb hby at_48) rfl (teq (by decide)).2 ?_
      exact k
    refine OFin.go S139 ?_
    have S140 : ∀ t, Steps p.tables e below (T134.setTop (mkF m 53 #[.val (.int u0), .val (.int u1), .val (.int u2), .val (.int u3), .val (.int u4), .val (.int (3 : Int32)), .val (.ref b123), .val (.ref fr125), .unset] [(.ref fr125)])) t → Steps p.tables e below (T134.setTop (mkF m 51 #[.val (.int u0), .val (.int u1), .val (.int u2), .val (.int u3), .val (.int u4), .val (.int (3 : Int32)), .val (.ref b123), .val (.ref fr125), .unset] [])) t := by
      intro t k
      show Steps p.tables e below (T134.setTop (mkF m 51 #[.val (.int u0), .val (.int u1), .val (.int u2), .val (.int u3), .val (.int u4), .val (.int (3 : Int32)), .val (.ref b123), .val (.ref fr125), .unset] [])) t
      refine XS.aload X134.here hx rfl (hb hby at_51) rfl rfl ?_
      exact k
    refine OFin.go S140 ?_
    have F142 := Fi125.other W132 (Or.inl (Ne.symm q126))
    obtain ⟨_, T141, Lc141, X141, hQ141, st141⟩ := virtQ X134 hx hZ (y := (⟨"com/example/cardbench/cardbench/Frame", "bits", "()I"⟩ : MethodName)) hown (hw _ (List.mem_of_getElem? (i := 36) rfl)) (hw _ (List.mem_of_getElem? (i := 38) rfl)) (hw _ (List.mem_of_getElem? (i := 8) rfl)) (hw _ (List.mem_of_getElem? (i := 40) rfl)) (hw _ (List.mem_of_getElem? (i := 37) rfl)) (hw _ (List.mem_of_getElem? (i := 39) rfl)) (by decide) F137 (argsL := []) (rest := []) (rm6 l Z a0 hw [] fr125 (24 : Int32) h132 n0 Z132 F142) (W := 0) (by decide) (by decide) e134 (g := (mkF m 53 #[.val (.int u0), .val (.int u1), .val (.int u2), .val (.int u3), .val (.int u4), .val (.int (3 : Int32)), .val (.ref b123), .val (.ref fr125), .unset] [(.ref fr125)])) rfl (by rw [hml]; rfl) (lenOf pd_3 rfl) rfl (by show 2 * 0 + _ ≤ _; exact Nat.le_of_eq rfl) (hb hby at_53) (Nat.le_of_ble_eq_true rfl) (Nat.le_of_ble_eq_true rfl)
    obtain ⟨rfl, N141q, e141⟩ := hQ141
    have N141 := Fr.app N134 N141q
    refine OFin.go st141 ?_
    show OFin p e below _ (T141.setTop (mkF m 56 #[.val (.int u0), .val (.int u1), .val (.int u2), .val (.int u3), .val (.int u4), .val (.int (3 : Int32)), .val (.ref b123), .val (.ref fr125), .unset] [(.int (24 : Int32))]))
    have S143 : ∀ t, Steps p.tables e below (T141.setTop (mkF m 61 #[.val (.int u0), .val (.int u1), .val (.int u2), .val (.int u3), .val (.int u4), .val (.int (3 : Int32)), .val (.ref b123), .val (.ref fr125), .unset] [(.int (24 : Int32)), (.int (24 : Int32))])) t → Steps p.tables e below (T141.setTop (mkF m 56 #[.val (.int u0), .val (.int u1), .val (.int u2), .val (.int u3), .val (.int u4), .val (.int (3 : Int32)), .val (.ref b123), .val (.ref fr125), .unset] [(.int (24 : Int32))])) t := by
      intro t k
      show Steps p.tables e below (T141.setTop (mkF m 56 #[.val (.int u0), .val (.int u1), .val (.int u2), .val (.int u3), .val (.int u4), .val (.int (3 : Int32)), .val (.ref b123), .val (.ref fr125), .unset] [(.int (24 : Int32))])) t
      refine XS.bipush X141.here hx rfl (hb hby at_56) ?_
      show Steps p.tables e below (T141.setTop (mkF m 58 #[.val (.int u0), .val (.int u1), .val (.int u2), .val (.int u3), .val (.int u4), .val (.int (3 : Int32)), .val (.ref b123), .val (.ref fr125), .unset] [(.int (8 : Int32)), (.int (24 : Int32))])) t
      refine XS.iload X141.here hx rfl (hb hby at_58) rfl ?_
      show Steps p.tables e below (T141.setTop (mkF m 60 #[.val (.int u0), .val (.int u1), .val (.int u2), .val (.int u3), .val (.int u4), .val (.int (3 : Int32)), .val (.ref b123), .val (.ref fr125), .unset] [(.int (3 : Int32)), (.int (8 : Int32)), (.int (24 : Int32))])) t
      refine XS.imul X141.here hx rfl (hb hby at_60) rfl ?_
      exact k
    refine OFin.go S143 ?_
    have S144 : ∀ t, Steps p.tables e below (T141.setTop (mkF m 64 #[.val (.int u0), .val (.int u1), .val (.int u2), .val (.int u3), .val (.int u4), .val (.int (3 : Int32)), .val (.ref b123), .val (.ref fr125), .unset] [])) t → Steps p.tables e below (T141.setTop (mkF m 61 #[.val (.int u0), .val (.int u1), .val (.int u2), .val (.int u3), .val (.int u4), .val (.int (3 : Int32)), .val (.ref b123), .val (.ref fr125), .unset] [(.int (24 : Int32)), (.int (24 : Int32))])) t := by
      intro t k
      show Steps p.tables e below (T141.setTop (mkF m 61 #[.val (.int u0), .val (.int u1), .val (.int u2), .val (.int u3), .val (.int u4), .val (.int (3 : Int32)), .val (.ref b123), .val (.ref fr125), .unset] [(.int (24 : Int32)), (.int (24 : Int32))])) t
      refine XS.icmpNo X141.here hx rfl (hb hby at_61) rfl (teq (by decide)).2 ?_
      exact k
    refine OFin.go S144 ?_
    have S145 : ∀ t, Steps p.tables e below (T141.setTop (mkF m 66 #[.val (.int u0), .val (.int u1), .val (.int u2), .val (.int u3), .val (.int u4), .val (.int (3 : Int32)), .val (.ref b123), .val (.ref fr125), .unset] [(.ref fr125)])) t → Steps p.tables e below (T141.setTop (mkF m 64 #[.val (.int u0), .val (.int u1), .val (.int u2), .val (.int u3), .val (.int u4), .val (.int (3 : Int32)), .val (.ref b123), .val (.ref fr125), .unset] [])) t := by
      intro t k
      show Steps p.tables e below (T141.setTop (mkF m 64 #[.val (.int u0), .val (.int u1), .val (.int u2), .val (.int u3), .val (.int u4), .val (.int (3 : Int32)), .val (.ref b123), .val (.ref fr125), .unset] [])) t
      refine XS.aload X141.here hx rfl (hb hby at_64) rfl rfl ?_
      exact k
    refine OFin.go S145 ?_
    obtain ⟨_, T146, Lc146, X146, hQ146, st146⟩ := virtQ X141 hx hZ (y := (⟨"com/example/cardbench/cardbench/Frame", "parityBits", "()I"⟩ : MethodName)) hown (hw _ (List.mem_of_getElem? (i := 41) rfl)) (hw _ (List.mem_of_getElem? (i := 43) rfl)) (hw _ (List.mem_of_getElem? (i := 8) rfl)) (hw _ (List.mem_of_getElem? (i := 45) rfl)) (hw _ (List.mem_of_getElem? (i := 42) rfl)) (hw _ (List.mem_of_getElem? (i := 44) rfl)) (by decide) F137 (argsL := []) (rest := []) (rm7 l Z a0 hw [] fr125 b125 3 (3 : Int32) (bf u1 u2 u3 u4) (24 : Int32) h132 n0 Z132 F135 F136 rfl F142 (by decide)) (W := 0) (by decide) (by decide) e141 (g := (mkF m 66 #[.val (.int u0), .val (.int u1), .val (.int u2), .val (.int u3), .val (.int u4), .val (.int (3 : Int32)), .val (.ref b123), .val (.ref fr125), .unset] [(.ref fr125)])) rfl (by rw [hml]; rfl) (lenOf pd_3 rfl) rfl (by show 2 * 0 + _ ≤ _; exact Nat.le_of_eq rfl) (hb hby at_66) (Nat.le_of_ble_eq_true rfl) (Nat.le_of_ble_eq_true rfl)
    obtain ⟨rfl, N146q, e146⟩ := hQ146
    have N146 := Fr.app N141 N146q
    refine OFin.go st146 ?_
    show OFin p e below _ (T146.setTop (mkF m 69 #[.val (.int u0), .val (.int u1), .val (.int u2), .val (.int u3), .val (.int u4), .val (.int (3 : Int32)), .val (.ref b123), .val (.ref fr125), .unset] [(.int (3 : Int32))]))
    have S147 : ∀ t, Steps p.tables e below (T146.setTop (mkF m 71 #[.val (.int u0), .val (.int u1), .val (.int u2), .val (.int u3), .val (.int u4), .val (.int (3 : Int32)), .val (.ref b123), .val (.ref fr125), .unset] [(.int (3 : Int32)), (.int (3 : Int32))])) t → Steps p.tables e below (T146.setTop (mkF m 69 #[.val (.int u0), .val (.int u1), .val (.int u2), .val (.int u3), .val (.int u4), .val (.int (3 : Int32)), .val (.ref b123), .val (.ref fr125), .unset] [(.int (3 : Int32))])) t := by
      intro t k
      show Steps p.tables e below (T146.setTop (mkF m 69 #[.val (.int u0), .val (.int u1), .val (.int u2), .val (.int u3), .val (.int u4), .val (.int (3 : Int32)), .val (.ref b123), .val (.ref fr125), .unset] [(.int (3 : Int32))])) t
      refine XS.iload X146.here hx rfl (hb hby at_69) rfl ?_
      exact k
    refine OFin.go S147 ?_
    have S148 : ∀ t, Steps p.tables e below (T146.setTop (mkF m 74 #[.val (.int u0), .val (.int u1), .val (.int u2), .val (.int u3), .val (.int u4), .val (.int (3 : Int32)), .val (.ref b123), .val (.ref fr125), .unset] [])) t → Steps p.tables e below (T146.setTop (mkF m 71 #[.val (.int u0), .val (.int u1), .val (.int u2), .val (.int u3), .val (.int u4), .val (.int (3 : Int32)), .val (.ref b123), .val (.ref fr125), .unset] [(.int (3 : Int32)), (.int (3 : Int32))])) t := by
      intro t k
      show Steps p.tables e below (T146.setTop (mkF m 71 #[.val (.int u0), .val (.int u1), .val (.int u2), .val (.int u3), .val (.int u4), .val (.int (3 : Int32)), .val (.ref b123), .val (.ref fr125), .unset] [(.int (3 : Int32)), (.int (3 : Int32))])) t
      refine XS.icmpNo X146.here hx rfl (hb hby at_71) rfl (teq (by decide)).2 ?_
      exact k
    refine OFin.go S148 ?_
    have S149 : ∀ t, Steps p.tables e below (T146.setTop (mkF m 84 #[.val (.int u0), .val (.int u1), .val (.int u2), .val (.int u3), .val (.int u4), .val (.int (3 : Int32)), .val (.ref b123), .val (.ref fr125), .val (.int (1 : Int32))] [(.int (1 : Int32)), (.int (3 : Int32))])) t → Steps p.tables e below (T146.setTop (mkF m 74 #[.val (.int u0), .val (.int u1), .val (.int u2), .val (.int u3), .val (.int u4), .val (.int (3 : Int32)), .val (.ref b123), .val (.ref fr125), .unset] [])) t := by
      intro t k
      show Steps p.tables e below (T146.setTop (mkF m 74 #[.val (.int u0), .val (.int u1), .val (.int u2), .val (.int u3), .val (.int u4), .val (.int (3 : Int32)), .val (.ref b123), .val (.ref fr125), .unset] [])) t
      refine XS.iconst X146.here hx rfl (hb hby at_74) ?_
      show Steps p.tables e below (T146.setTop (mkF m 75 #[.val (.int u0), .val (.int u1), .val (.int u2), .val (.int u3), .val (.int u4), .val (.int (3 : Int32)), .val (.ref b123), .val (.ref fr125), .unset] [(.int (1 : Int32))])) t
      refine XS.goto X146.here hx rfl (pc0 := 75) (pc' := 79) rfl (hb hby at_75) (by decide) (by decide) ?_
      show Steps p.tables e below (T146.setTop (mkF m 79 #[.val (.int u0), .val (.int u1), .val (.int u2), .val (.int u3), .val (.int u4), .val (.int (3 : Int32)), .val (.ref b123), .val (.ref fr125), .unset] [(.int (1 : Int32))])) t
      refine XS.istore X146.here hx rfl (hb hby at_79) rfl (l' := #[.val (.int u0), .val (.int u1), .val (.int u2), .val (.int u3), .val (.int u4), .val (.int (3 : Int32)), .val (.ref b123), .val (.ref fr125), .val (.int (1 : Int32))]) rfl ?_
      show Steps p.tables e below (T146.setTop (mkF m 81 #[.val (.int u0), .val (.int u1), .val (.int u2), .val (.int u3), .val (.int u4), .val (.int (3 : Int32)), .val (.ref b123), .val (.ref fr125), .val (.int (1 : Int32))] [])) t
      refine XS.iload X146.here hx rfl (hb hby at_81) rfl ?_
      show Steps p.tables e below (T146.setTop (mkF m 83 #[.val (.int u0), .val (.int u1), .val (.int u2), .val (.int u3), .val (.int u4), .val (.int (3 : Int32)), .val (.ref b123), .val (.ref fr125), .val (.int (1 : Int32))] [(.int (3 : Int32))])) t
      refine XS.iconst X146.here hx rfl (hb hby at_83) ?_
      exact k
    refine OFin.go S149 ?_
    have S150 : ∀ t, Steps p.tables e below (T146.setTop (mkF m 87 #[.val (.int u0), .val (.int u1), .val (.int u2), .val (.int u3), .val (.int u4), .val (.int (3 : Int32)), .val (.ref b123), .val (.ref fr125), .val (.int (1 : Int32))] [])) t → Steps p.tables e below (T146.setTop (mkF m 84 #[.val (.int u0), .val (.int u1), .val (.int u2), .val (.int u3), .val (.int u4), .val (.int (3 : Int32)), .val (.ref b123), .val (.ref fr125), .val (.int (1 : Int32))] [(.int (1 : Int32)), (.int (3 : Int32))])) t := by
      intro t k
      show Steps p.tables e below (T146.setTop (mkF m 84 #[.val (.int u0), .val (.int u1), .val (.int u2), .val (.int u3), .val (.int u4), .val (.int (3 : Int32)), .val (.ref b123), .val (.ref fr125), .val (.int (1 : Int32))] [(.int (1 : Int32)), (.int (3 : Int32))])) t
      refine XS.icmpNo X146.here hx rfl (hb hby at_84) rfl (flt (by decide)).1 ?_
      exact k
    refine OFin.go S150 ?_
    have S151 : ∀ t, Steps p.tables e below (T146.setTop (mkF m 89 #[.val (.int u0), .val (.int u1), .val (.int u2), .val (.int u3), .val (.int u4), .val (.int (3 : Int32)), .val (.ref b123), .val (.ref fr125), .val (.int (1 : Int32))] [(.int (1 : Int32))])) t → Steps p.tables e below (T146.setTop (mkF m 87 #[.val (.int u0), .val (.int u1), .val (.int u2), .val (.int u3), .val (.int u4), .val (.int (3 : Int32)), .val (.ref b123), .val (.ref fr125), .val (.int (1 : Int32))] [])) t := by
      intro t k
      show Steps p.tables e below (T146.setTop (mkF m 87 #[.val (.int u0), .val (.int u1), .val (.int u2), .val (.int u3), .val (.int u4), .val (.int (3 : Int32)), .val (.ref b123), .val (.ref fr125), .val (.int (1 : Int32))] [])) t
      refine XS.iload X146.here hx rfl (hb hby at_87) rfl ?_
      exact k
    refine OFin.go S151 ?_
    have S152 : ∀ t, Steps p.tables e below (T146.setTop (mkF m 92 #[.val (.int u0), .val (.int u1), .val (.int u2), .val (.int u3), .val (.int u4), .val (.int (3 : Int32)), .val (.ref b123), .val (.ref fr125), .val (.int (1 : Int32))] [])) t → Steps p.tables e below (T146.setTop (mkF m 89 #[.val (.int u0), .val (.int u1), .val (.int u2), .val (.int u3), .val (.int u4), .val (.int (3 : Int32)), .val (.ref b123), .val (.ref fr125), .val (.int (1 : Int32))] [(.int (1 : Int32))])) t := by
      intro t k
      show Steps p.tables e below (T146.setTop (mkF m 89 #[.val (.int u0), .val (.int u1), .val (.int u2), .val (.int u3), .val (.int u4), .val (.int (3 : Int32)), .val (.ref b123), .val (.ref fr125), .val (.int (1 : Int32))] [(.int (1 : Int32))])) t
      refine XS.ifNo X146.here hx rfl (hb hby at_89) rfl ((if0 _ _).trans (feq (by decide)).1) ?_
      exact k
    refine OFin.go S152 ?_
    have S153 : ∀ t, Steps p.tables e below (T146.setTop (mkF m 95 #[.val (.int u0), .val (.int u1), .val (.int u2), .val (.int u3), .val (.int u4), .val (.int (3 : Int32)), .val (.ref b123), .val (.ref fr125), .val (.int (1 : Int32))] [(.int (0 : Int32)), (.ref fr125)])) t → Steps p.tables e below (T146.setTop (mkF m 92 #[.val (.int u0), .val (.int u1), .val (.int u2), .val (.int u3), .val (.int u4), .val (.int (3 : Int32)), .val (.ref b123), .val (.ref fr125), .val (.int (1 : Int32))] [])) t := by
      intro t k
      show Steps p.tables e below (T146.setTop (mkF m 92 #[.val (.int u0), .val (.int u1), .val (.int u2), .val (.int u3), .val (.int u4), .val (.int (3 : Int32)), .val (.ref b123), .val (.ref fr125), .val (.int (1 : Int32))] [])) t
      refine XS.aload X146.here hx rfl (hb hby at_92) rfl rfl ?_
      show Steps p.tables e below (T146.setTop (mkF m 94 #[.val (.int u0), .val (.int u1), .val (.int u2), .val (.int u3), .val (.int u4), .val (.int (3 : Int32)), .val (.ref b123), .val (.ref fr125), .val (.int (1 : Int32))] [(.ref fr125)])) t
      refine XS.iconst X146.here hx rfl (hb hby at_94) ?_
      exact k
    refine OFin.go S153 ?_
    obtain ⟨_, T154, Lc154, X154, hQ154, st154⟩ := virtQ X146 hx hZ (y := (⟨"com/example/cardbench/cardbench/Frame", "get", "(I)I"⟩ : MethodName)) hown (hw _ (List.mem_of_getElem? (i := 46) rfl)) (hw _ (List.mem_of_getElem? (i := 48) rfl)) (hw _ (List.mem_of_getElem? (i := 8) rfl)) (hw _ (List.mem_of_getElem? (i := 50) rfl)) (hw _ (List.mem_of_getElem? (i := 47) rfl)) (hw _ (List.mem_of_getElem? (i := 49) rfl)) (by decide) F137 (argsL := [(.int (0 : Int32))]) (rest := []) (rm8 l Z a0 hw [] fr125 (0 : Int32) b125 3 (bf u1 u2 u3 u4) (u1.toInt8.toInt32) h132 n0 Z132 F135 F136 (by decide) (by decide) rfl) (W := 0) (by decide) (by decide) e146 (g := (mkF m 95 #[.val (.int u0), .val (.int u1), .val (.int u2), .val (.int u3), .val (.int u4), .val (.int (3 : Int32)), .val (.ref b123), .val (.ref fr125), .val (.int (1 : Int32))] [(.int (0 : Int32)), (.ref fr125)])) rfl (by rw [hml]; rfl) (lenOf pd_4 rfl) rfl (by show 2 * 0 + _ ≤ _; exact Nat.le_of_eq rfl) (hb hby at_95) (Nat.le_of_ble_eq_true rfl) (Nat.le_of_ble_eq_true rfl)
    obtain ⟨rfl, N154q, e154⟩ := hQ154
    have N154 := Fr.app N146 N154q
    refine OFin.go st154 ?_
    show OFin p e below _ (T154.setTop (mkF m 98 #[.val (.int u0), .val (.int u1), .val (.int u2), .val (.int u3), .val (.int u4), .val (.int (3 : Int32)), .val (.ref b123), .val (.ref fr125), .val (.int (1 : Int32))] [(.int ((u1.toInt8.toInt32) &&& (255 : Int32)))]))
    have S155 : ∀ t, Steps p.tables e below (T154.setTop (mkF m 103 #[.val (.int u0), .val (.int u1), .val (.int u2), .val (.int u3), .val (.int u4), .val (.int (3 : Int32)), .val (.ref b123), .val (.ref fr125), .val (.int (1 : Int32))] [(.int (u1 &&& (255 : Int32))), (.int ((u1.toInt8.toInt32) &&& (255 : Int32)))])) t → Steps p.tables e below (T154.setTop (mkF m 98 #[.val (.int u0), .val (.int u1), .val (.int u2), .val (.int u3), .val (.int u4), .val (.int (3 : Int32)), .val (.ref b123), .val (.ref fr125), .val (.int (1 : Int32))] [(.int ((u1.toInt8.toInt32) &&& (255 : Int32)))])) t := by
      intro t k
      show Steps p.tables e below (T154.setTop (mkF m 98 #[.val (.int u0), .val (.int u1), .val (.int u2), .val (.int u3), .val (.int u4), .val (.int (3 : Int32)), .val (.ref b123), .val (.ref fr125), .val (.int (1 : Int32))] [(.int ((u1.toInt8.toInt32) &&& (255 : Int32)))])) t
      refine XS.iloadN X154.here hx rfl (hb hby at_98) rfl ?_
      show Steps p.tables e below (T154.setTop (mkF m 99 #[.val (.int u0), .val (.int u1), .val (.int u2), .val (.int u3), .val (.int u4), .val (.int (3 : Int32)), .val (.ref b123), .val (.ref fr125), .val (.int (1 : Int32))] [(.int u1), (.int ((u1.toInt8.toInt32) &&& (255 : Int32)))])) t
      refine XS.sipush X154.here hx rfl (hb hby at_99) ?_
      show Steps p.tables e below (T154.setTop (mkF m 102 #[.val (.int u0), .val (.int u1), .val (.int u2), .val (.int u3), .val (.int u4), .val (.int (3 : Int32)), .val (.ref b123), .val (.ref fr125), .val (.int (1 : Int32))] [(.int (255 : Int32)), (.int u1), (.int ((u1.toInt8.toInt32) &&& (255 : Int32)))])) t
      refine XS.iand X154.here hx rfl (hb hby at_102) rfl ?_
      exact k
    refine OFin.go S155 ?_
    have S156 : ∀ t, Steps p.tables e below (T154.setTop (mkF m 106 #[.val (.int u0), .val (.int u1), .val (.int u2), .val (.int u3), .val (.int u4), .val (.int (3 : Int32)), .val (.ref b123), .val (.ref fr125), .val (.int (1 : Int32))] [])) t → Steps p.tables e below (T154.setTop (mkF m 103 #[.val (.int u0), .val (.int u1), .val (.int u2), .val (.int u3), .val (.int u4), .val (.int (3 : Int32)), .val (.ref b123), .val (.ref fr125), .val (.int (1 : Int32))] [(.int (u1 &&& (255 : Int32))), (.int ((u1.toInt8.toInt32) &&& (255 : Int32)))])) t := by
      intro t k
      show Steps p.tables e below (T154.setTop (mkF m 103 #[.val (.int u0), .val (.int u1), .val (.int u2), .val (.int u3), .val (.int u4), .val (.int (3 : Int32)), .val (.ref b123), .val (.ref fr125), .val (.int (1 : Int32))] [(.int (u1 &&& (255 : Int32))), (.int ((u1.toInt8.toInt32) &&& (255 : Int32)))])) t
      refine XS.icmpNo X154.here hx rfl (hb hby at_103) rfl (teq (own_b _)).2 ?_
      exact k
    refine OFin.go S156 ?_
    have S157 : ∀ t, Steps p.tables e below (T154.setTop (mkF m 116 #[.val (.int u0), .val (.int u1), .val (.int u2), .val (.int u3), .val (.int u4), .val (.int (3 : Int32)), .val (.ref b123), .val (.ref fr125), .val (.int (1 : Int32))] [(.int (2 : Int32)), (.int (3 : Int32))])) t → Steps p.tables e below (T154.setTop (mkF m 106 #[.val (.int u0), .val (.int u1), .val (.int u2), .val (.int u3), .val (.int u4), .val (.int (3 : Int32)), .val (.ref b123), .val (.ref fr125), .val (.int (1 : Int32))] [])) t := by
      intro t k
      show Steps p.tables e below (T154.setTop (mkF m 106 #[.val (.int u0), .val (.int u1), .val (.int u2), .val (.int u3), .val (.int u4), .val (.int (3 : Int32)), .val (.ref b123), .val (.ref fr125), .val (.int (1 : Int32))] [])) t
      refine XS.iconst X154.here hx rfl (hb hby at_106) ?_
      show Steps p.tables e below (T154.setTop (mkF m 107 #[.val (.int u0), .val (.int u1), .val (.int u2), .val (.int u3), .val (.int u4), .val (.int (3 : Int32)), .val (.ref b123), .val (.ref fr125), .val (.int (1 : Int32))] [(.int (1 : Int32))])) t
      refine XS.goto X154.here hx rfl (pc0 := 107) (pc' := 111) rfl (hb hby at_107) (by decide) (by decide) ?_
      show Steps p.tables e below (T154.setTop (mkF m 111 #[.val (.int u0), .val (.int u1), .val (.int u2), .val (.int u3), .val (.int u4), .val (.int (3 : Int32)), .val (.ref b123), .val (.ref fr125), .val (.int (1 : Int32))] [(.int (1 : Int32))])) t
      refine XS.istore X154.here hx rfl (hb hby at_111) rfl (l' := #[.val (.int u0), .val (.int u1), .val (.int u2), .val (.int u3), .val (.int u4), .val (.int (3 : Int32)), .val (.ref b123), .val (.ref fr125), .val (.int (1 : Int32))]) rfl ?_
      show Steps p.tables e below (T154.setTop (mkF m 113 #[.val (.int u0), .val (.int u1), .val (.int u2), .val (.int u3), .val (.int u4), .val (.int (3 : Int32)), .val (.ref b123), .val (.ref fr125), .val (.int (1 : Int32))] [])) t
      refine XS.iload X154.here hx rfl (hb hby at_113) rfl ?_
      show Steps p.tables e below (T154.setTop (mkF m 115 #[.val (.int u0), .val (.int u1), .val (.int u2), .val (.int u3), .val (.int u4), .val (.int (3 : Int32)), .val (.ref b123), .val (.ref fr125), .val (.int (1 : Int32))] [(.int (3 : Int32))])) t
      refine XS.iconst X154.here hx rfl (hb hby at_115) ?_
      exact k
    refine OFin.go S157 ?_
    have S158 : ∀ t, Steps p.tables e below (T154.setTop (mkF m 119 #[.val (.int u0), .val (.int u1), .val (.int u2), .val (.int u3), .val (.int u4), .val (.int (3 : Int32)), .val (.ref b123), .val (.ref fr125), .val (.int (1 : Int32))] [])) t → Steps p.tables e below (T154.setTop (mkF m 116 #[.val (.int u0), .val (.int u1), .val (.int u2), .val (.int u3), .val (.int u4), .val (.int (3 : Int32)), .val (.ref b123), .val (.ref fr125), .val (.int (1 : Int32))] [(.int (2 : Int32)), (.int (3 : Int32))])) t := by
      intro t k
      show Steps p.tables e below (T154.setTop (mkF m 116 #[.val (.int u0), .val (.int u1), .val (.int u2), .val (.int u3), .val (.int u4), .val (.int (3 : Int32)), .val (.ref b123), .val (.ref fr125), .val (.int (1 : Int32))] [(.int (2 : Int32)), (.int (3 : Int32))])) t
      refine XS.icmpNo X154.here hx rfl (hb hby at_116) rfl (flt (by decide)).1 ?_
      exact k
    refine OFin.go S158 ?_
    have S159 : ∀ t, Steps p.tables e below (T154.setTop (mkF m 121 #[.val (.int u0), .val (.int u1), .val (.int u2), .val (.int u3), .val (.int u4), .val (.int (3 : Int32)), .val (.ref b123), .val (.ref fr125), .val (.int (1 : Int32))] [(.int (1 : Int32))])) t → Steps p.tables e below (T154.setTop (mkF m 119 #[.val (.int u0), .val (.int u1), .val (.int u2), .val (.int u3), .val (.int u4), .val (.int (3 : Int32)), .val (.ref b123), .val (.ref fr125), .val (.int (1 : Int32))] [])) t := by
      intro t k
      show Steps p.tables e below (T154.setTop (mkF m 119 #[.val (.int u0), .val (.int u1), .val (.int u2), .val (.int u3), .val (.int u4), .val (.int (3 : Int32)), .val (.ref b123), .val (.ref fr125), .val (.int (1 : Int32))] [])) t
      refine XS.iload X154.here hx rfl (hb hby at_119) rfl ?_
      exact k
    refine OFin.go S159 ?_
    have S160 : ∀ t, Steps p.tables e below (T154.setTop (mkF m 124 #[.val (.int u0), .val (.int u1), .val (.int u2), .val (.int u3), .val (.int u4), .val (.int (3 : Int32)), .val (.ref b123), .val (.ref fr125), .val (.int (1 : Int32))] [])) t → Steps p.tables e below (T154.setTop (mkF m 121 #[.val (.int u0), .val (.int u1), .val (.int u2), .val (.int u3), .val (.int u4), .val (.int (3 : Int32)), .val (.ref b123), .val (.ref fr125), .val (.int (1 : Int32))] [(.int (1 : Int32))])) t := by
      intro t k
      show Steps p.tables e below (T154.setTop (mkF m 121 #[.val (.int u0), .val (.int u1), .val (.int u2), .val (.int u3), .val (.int u4), .val (.int (3 : Int32)), .val (.ref b123), .val (.ref fr125), .val (.int (1 : Int32))] [(.int (1 : Int32))])) t
      refine XS.ifNo X154.here hx rfl (hb hby at_121) rfl ((if0 _ _).trans (feq (by decide)).1) ?_
      exact k
    refine OFin.go S160 ?_
    have S161 : ∀ t, Steps p.tables e below (T154.setTop (mkF m 127 #[.val (.int u0), .val (.int u1), .val (.int u2), .val (.int u3), .val (.int u4), .val (.int (3 : Int32)), .val (.ref b123), .val (.ref fr125), .val (.int (1 : Int32))] [(.int (1 : Int32)), (.ref fr125)])) t → Steps p.tables e below (T154.setTop (mkF m 124 #[.val (.int u0), .val (.int u1), .val (.int u2), .val (.int u3), .val (.int u4), .val (.int (3 : Int32)), .val (.ref b123), .val (.ref fr125), .val (.int (1 : Int32))] [])) t := by
      intro t k
      show Steps p.tables e below (T154.setTop (mkF m 124 #[.val (.int u0), .val (.int u1), .val (.int u2), .val (.int u3), .val (.int u4), .val (.int (3 : Int32)), .val (.ref b123), .val (.ref fr125), .val (.int (1 : Int32))] [])) t
      refine XS.aload X154.here hx rfl (hb hby at_124) rfl rfl ?_
      show Steps p.tables e below (T154.setTop (mkF m 126 #[.val (.int u0), .val (.int u1), .val (.int u2), .val (.int u3), .val (.int u4), .val (.int (3 : Int32)), .val (.ref b123), .val (.ref fr125), .val (.int (1 : Int32))] [(.ref fr125)])) t
      refine XS.iconst X154.here hx rfl (hb hby at_126) ?_
      exact k
    refine OFin.go S161 ?_
    obtain ⟨_, T162, Lc162, X162, hQ162, st162⟩ := virtQ X154 hx hZ (y := (⟨"com/example/cardbench/cardbench/Frame", "get", "(I)I"⟩ : MethodName)) hown (hw _ (List.mem_of_getElem? (i := 46) rfl)) (hw _ (List.mem_of_getElem? (i := 48) rfl)) (hw _ (List.mem_of_getElem? (i := 8) rfl)) (hw _ (List.mem_of_getElem? (i := 50) rfl)) (hw _ (List.mem_of_getElem? (i := 47) rfl)) (hw _ (List.mem_of_getElem? (i := 49) rfl)) (by decide) F137 (argsL := [(.int (1 : Int32))]) (rest := []) (rm8 l Z a0 hw [] fr125 (1 : Int32) b125 3 (bf u1 u2 u3 u4) (u2.toInt8.toInt32) h132 n0 Z132 F135 F136 (by decide) (by decide) rfl) (W := 0) (by decide) (by decide) e154 (g := (mkF m 127 #[.val (.int u0), .val (.int u1), .val (.int u2), .val (.int u3), .val (.int u4), .val (.int (3 : Int32)), .val (.ref b123), .val (.ref fr125), .val (.int (1 : Int32))] [(.int (1 : Int32)), (.ref fr125)])) rfl (by rw [hml]; rfl) (lenOf pd_4 rfl) rfl (by show 2 * 0 + _ ≤ _; exact Nat.le_of_eq rfl) (hb hby at_127) (Nat.le_of_ble_eq_true rfl) (Nat.le_of_ble_eq_true rfl)
    obtain ⟨rfl, N162q, e162⟩ := hQ162
    have N162 := Fr.app N154 N162q
    refine OFin.go st162 ?_
    show OFin p e below _ (T162.setTop (mkF m 130 #[.val (.int u0), .val (.int u1), .val (.int u2), .val (.int u3), .val (.int u4), .val (.int (3 : Int32)), .val (.ref b123), .val (.ref fr125), .val (.int (1 : Int32))] [(.int ((u2.toInt8.toInt32) &&& (255 : Int32)))]))
    have S163 : ∀ t, Steps p.tables e below (T162.setTop (mkF m 135 #[.val (.int u0), .val (.int u1), .val (.int u2), .val (.int u3), .val (.int u4), .val (.int (3 : Int32)), .val (.ref b123), .val (.ref fr125), .val (.int (1 : Int32))] [(.int (u2 &&& (255 : Int32))), (.int ((u2.toInt8.toInt32) &&& (255 : Int32)))])) t → Steps p.tables e below (T162.setTop (mkF m 130 #[.val (.int u0), .val (.int u1), .val (.int u2), .val (.int u3), .val (.int u4), .val (.int (3 : Int32)), .val (.ref b123), .val (.ref fr125), .val (.int (1 : Int32))] [(.int ((u2.toInt8.toInt32) &&& (255 : Int32)))])) t := by
      intro t k
      show Steps p.tables e below (T162.setTop (mkF m 130 #[.val (.int u0), .val (.int u1), .val (.int u2), .val (.int u3), .val (.int u4), .val (.int (3 : Int32)), .val (.ref b123), .val (.ref fr125), .val (.int (1 : Int32))] [(.int ((u2.toInt8.toInt32) &&& (255 : Int32)))])) t
      refine XS.iloadN X162.here hx rfl (hb hby at_130) rfl ?_
      show Steps p.tables e below (T162.setTop (mkF m 131 #[.val (.int u0), .val (.int u1), .val (.int u2), .val (.int u3), .val (.int u4), .val (.int (3 : Int32)), .val (.ref b123), .val (.ref fr125), .val (.int (1 : Int32))] [(.int u2), (.int ((u2.toInt8.toInt32) &&& (255 : Int32)))])) t
      refine XS.sipush X162.here hx rfl (hb hby at_131) ?_
      show Steps p.tables e below (T162.setTop (mkF m 134 #[.val (.int u0), .val (.int u1), .val (.int u2), .val (.int u3), .val (.int u4), .val (.int (3 : Int32)), .val (.ref b123), .val (.ref fr125), .val (.int (1 : Int32))] [(.int (255 : Int32)), (.int u2), (.int ((u2.toInt8.toInt32) &&& (255 : Int32)))])) t
      refine XS.iand X162.here hx rfl (hb hby at_134) rfl ?_
      exact k
    refine OFin.go S163 ?_
    have S164 : ∀ t, Steps p.tables e below (T162.setTop (mkF m 138 #[.val (.int u0), .val (.int u1), .val (.int u2), .val (.int u3), .val (.int u4), .val (.int (3 : Int32)), .val (.ref b123), .val (.ref fr125), .val (.int (1 : Int32))] [])) t → Steps p.tables e below (T162.setTop (mkF m 135 #[.val (.int u0), .val (.int u1), .val (.int u2), .val (.int u3), .val (.int u4), .val (.int (3 : Int32)), .val (.ref b123), .val (.ref fr125), .val (.int (1 : Int32))] [(.int (u2 &&& (255 : Int32))), (.int ((u2.toInt8.toInt32) &&& (255 : Int32)))])) t := by
      intro t k
      show Steps p.tables e below (T162.setTop (mkF m 135 #[.val (.int u0), .val (.int u1), .val (.int u2), .val (.int u3), .val (.int u4), .val (.int (3 : Int32)), .val (.ref b123), .val (.ref fr125), .val (.int (1 : Int32))] [(.int (u2 &&& (255 : Int32))), (.int ((u2.toInt8.toInt32) &&& (255 : Int32)))])) t
      refine XS.icmpNo X162.here hx rfl (hb hby at_135) rfl (teq (own_b _)).2 ?_
      exact k
    refine OFin.go S164 ?_
    have S165 : ∀ t, Steps p.tables e below (T162.setTop (mkF m 148 #[.val (.int u0), .val (.int u1), .val (.int u2), .val (.int u3), .val (.int u4), .val (.int (3 : Int32)), .val (.ref b123), .val (.ref fr125), .val (.int (1 : Int32))] [(.int (3 : Int32)), (.int (3 : Int32))])) t → Steps p.tables e below (T162.setTop (mkF m 138 #[.val (.int u0), .val (.int u1), .val (.int u2), .val (.int u3), .val (.int u4), .val (.int (3 : Int32)), .val (.ref b123), .val (.ref fr125), .val (.int (1 : Int32))] [])) t := by
      intro t k
      show Steps p.tables e below (T162.setTop (mkF m 138 #[.val (.int u0), .val (.int u1), .val (.int u2), .val (.int u3), .val (.int u4), .val (.int (3 : Int32)), .val (.ref b123), .val (.ref fr125), .val (.int (1 : Int32))] [])) t
      refine XS.iconst X162.here hx rfl (hb hby at_138) ?_
      show Steps p.tables e below (T162.setTop (mkF m 139 #[.val (.int u0), .val (.int u1), .val (.int u2), .val (.int u3), .val (.int u4), .val (.int (3 : Int32)), .val (.ref b123), .val (.ref fr125), .val (.int (1 : Int32))] [(.int (1 : Int32))])) t
      refine XS.goto X162.here hx rfl (pc0 := 139) (pc' := 143) rfl (hb hby at_139) (by decide) (by decide) ?_
      show Steps p.tables e below (T162.setTop (mkF m 143 #[.val (.int u0), .val (.int u1), .val (.int u2), .val (.int u3), .val (.int u4), .val (.int (3 : Int32)), .val (.ref b123), .val (.ref fr125), .val (.int (1 : Int32))] [(.int (1 : Int32))])) t
      refine XS.istore X162.here hx rfl (hb hby at_143) rfl (l' := #[.val (.int u0), .val (.int u1), .val (.int u2), .val (.int u3), .val (.int u4), .val (.int (3 : Int32)), .val (.ref b123), .val (.ref fr125), .val (.int (1 : Int32))]) rfl ?_
      show Steps p.tables e below (T162.setTop (mkF m 145 #[.val (.int u0), .val (.int u1), .val (.int u2), .val (.int u3), .val (.int u4), .val (.int (3 : Int32)), .val (.ref b123), .val (.ref fr125), .val (.int (1 : Int32))] [])) t
      refine XS.iload X162.here hx rfl (hb hby at_145) rfl ?_
      show Steps p.tables e below (T162.setTop (mkF m 147 #[.val (.int u0), .val (.int u1), .val (.int u2), .val (.int u3), .val (.int u4), .val (.int (3 : Int32)), .val (.ref b123), .val (.ref fr125), .val (.int (1 : Int32))] [(.int (3 : Int32))])) t
      refine XS.iconst X162.here hx rfl (hb hby at_147) ?_
      exact k
    refine OFin.go S165 ?_
    have S166 : ∀ t, Steps p.tables e below (T162.setTop (mkF m 151 #[.val (.int u0), .val (.int u1), .val (.int u2), .val (.int u3), .val (.int u4), .val (.int (3 : Int32)), .val (.ref b123), .val (.ref fr125), .val (.int (1 : Int32))] [])) t → Steps p.tables e below (T162.setTop (mkF m 148 #[.val (.int u0), .val (.int u1), .val (.int u2), .val (.int u3), .val (.int u4), .val (.int (3 : Int32)), .val (.ref b123), .val (.ref fr125), .val (.int (1 : Int32))] [(.int (3 : Int32)), (.int (3 : Int32))])) t := by
      intro t k
      show Steps p.tables e below (T162.setTop (mkF m 148 #[.val (.int u0), .val (.int u1), .val (.int u2), .val (.int u3), .val (.int u4), .val (.int (3 : Int32)), .val (.ref b123), .val (.ref fr125), .val (.int (1 : Int32))] [(.int (3 : Int32)), (.int (3 : Int32))])) t
      refine XS.icmpNo X162.here hx rfl (hb hby at_148) rfl (flt (by decide)).1 ?_
      exact k
    refine OFin.go S166 ?_
    have S167 : ∀ t, Steps p.tables e below (T162.setTop (mkF m 153 #[.val (.int u0), .val (.int u1), .val (.int u2), .val (.int u3), .val (.int u4), .val (.int (3 : Int32)), .val (.ref b123), .val (.ref fr125), .val (.int (1 : Int32))] [(.int (1 : Int32))])) t → Steps p.tables e below (T162.setTop (mkF m 151 #[.val (.int u0), .val (.int u1), .val (.int u2), .val (.int u3), .val (.int u4), .val (.int (3 : Int32)), .val (.ref b123), .val (.ref fr125), .val (.int (1 : Int32))] [])) t := by
      intro t k
      show Steps p.tables e below (T162.setTop (mkF m 151 #[.val (.int u0), .val (.int u1), .val (.int u2), .val (.int u3), .val (.int u4), .val (.int (3 : Int32)), .val (.ref b123), .val (.ref fr125), .val (.int (1 : Int32))] [])) t
      refine XS.iload X162.here hx rfl (hb hby at_151) rfl ?_
      exact k
    refine OFin.go S167 ?_
    have S168 : ∀ t, Steps p.tables e below (T162.setTop (mkF m 156 #[.val (.int u0), .val (.int u1), .val (.int u2), .val (.int u3), .val (.int u4), .val (.int (3 : Int32)), .val (.ref b123), .val (.ref fr125), .val (.int (1 : Int32))] [])) t → Steps p.tables e below (T162.setTop (mkF m 153 #[.val (.int u0), .val (.int u1), .val (.int u2), .val (.int u3), .val (.int u4), .val (.int (3 : Int32)), .val (.ref b123), .val (.ref fr125), .val (.int (1 : Int32))] [(.int (1 : Int32))])) t := by
      intro t k
      show Steps p.tables e below (T162.setTop (mkF m 153 #[.val (.int u0), .val (.int u1), .val (.int u2), .val (.int u3), .val (.int u4), .val (.int (3 : Int32)), .val (.ref b123), .val (.ref fr125), .val (.int (1 : Int32))] [(.int (1 : Int32))])) t
      refine XS.ifNo X162.here hx rfl (hb hby at_153) rfl ((if0 _ _).trans (feq (by decide)).1) ?_
      exact k
    refine OFin.go S168 ?_
    have S169 : ∀ t, Steps p.tables e below (T162.setTop (mkF m 159 #[.val (.int u0), .val (.int u1), .val (.int u2), .val (.int u3), .val (.int u4), .val (.int (3 : Int32)), .val (.ref b123), .val (.ref fr125), .val (.int (1 : Int32))] [(.int (2 : Int32)), (.ref fr125)])) t → Steps p.tables e below (T162.setTop (mkF m 156 #[.val (.int u0), .val (.int u1), .val (.int u2), .val (.int u3), .val (.int u4), .val (.int (3 : Int32)), .val (.ref b123), .val (.ref fr125), .val (.int (1 : Int32))] [])) t := by
      intro t k
      show Steps p.tables e below (T162.setTop (mkF m 156 #[.val (.int u0), .val (.int u1), .val (.int u2), .val (.int u3), .val (.int u4), .val (.int (3 : Int32)), .val (.ref b123), .val (.ref fr125), .val (.int (1 : Int32))] [])) t
      refine XS.aload X162.here hx rfl (hb hby at_156) rfl rfl ?_
      show Steps p.tables e below (T162.setTop (mkF m 158 #[.val (.int u0), .val (.int u1), .val (.int u2), .val (.int u3), .val (.int u4), .val (.int (3 : Int32)), .val (.ref b123), .val (.ref fr125), .val (.int (1 : Int32))] [(.ref fr125)])) t
      refine XS.iconst X162.here hx rfl (hb hby at_158) ?_
      exact k
    refine OFin.go S169 ?_
    obtain ⟨_, T170, Lc170, X170, hQ170, st170⟩ := virtQ X162 hx hZ (y := (⟨"com/example/cardbench/cardbench/Frame", "get", "(I)I"⟩ : MethodName)) hown (hw _ (List.mem_of_getElem? (i := 46) rfl)) (hw _ (List.mem_of_getElem? (i := 48) rfl)) (hw _ (List.mem_of_getElem? (i := 8) rfl)) (hw _ (List.mem_of_getElem? (i := 50) rfl)) (hw _ (List.mem_of_getElem? (i := 47) rfl)) (hw _ (List.mem_of_getElem? (i := 49) rfl)) (by decide) F137 (argsL := [(.int (2 : Int32))]) (rest := []) (rm8 l Z a0 hw [] fr125 (2 : Int32) b125 3 (bf u1 u2 u3 u4) (u3.toInt8.toInt32) h132 n0 Z132 F135 F136 (by decide) (by decide) rfl) (W := 0) (by decide) (by decide) e162 (g := (mkF m 159 #[.val (.int u0), .val (.int u1), .val (.int u2), .val (.int u3), .val (.int u4), .val (.int (3 : Int32)), .val (.ref b123), .val (.ref fr125), .val (.int (1 : Int32))] [(.int (2 : Int32)), (.ref fr125)])) rfl (by rw [hml]; rfl) (lenOf pd_4 rfl) rfl (by show 2 * 0 + _ ≤ _; exact Nat.le_of_eq rfl) (hb hby at_159) (Nat.le_of_ble_eq_true rfl) (Nat.le_of_ble_eq_true rfl)
    obtain ⟨rfl, N170q, e170⟩ := hQ170
    have N170 := Fr.app N162 N170q
    refine OFin.go st170 ?_
    show OFin p e below _ (T170.setTop (mkF m 162 #[.val (.int u0), .val (.int u1), .val (.int u2), .val (.int u3), .val (.int u4), .val (.int (3 : Int32)), .val (.ref b123), .val (.ref fr125), .val (.int (1 : Int32))] [(.int ((u3.toInt8.toInt32) &&& (255 : Int32)))]))
    have S171 : ∀ t, Steps p.tables e below (T170.setTop (mkF m 167 #[.val (.int u0), .val (.int u1), .val (.int u2), .val (.int u3), .val (.int u4), .val (.int (3 : Int32)), .val (.ref b123), .val (.ref fr125), .val (.int (1 : Int32))] [(.int (u3 &&& (255 : Int32))), (.int ((u3.toInt8.toInt32) &&& (255 : Int32)))])) t → Steps p.tables e below (T170.setTop (mkF m 162 #[.val (.int u0), .val (.int u1), .val (.int u2), .val (.int u3), .val (.int u4), .val (.int (3 : Int32)), .val (.ref b123), .val (.ref fr125), .val (.int (1 : Int32))] [(.int ((u3.toInt8.toInt32) &&& (255 : Int32)))])) t := by
      intro t k
      show Steps p.tables e below (T170.setTop (mkF m 162 #[.val (.int u0), .val (.int u1), .val (.int u2), .val (.int u3), .val (.int u4), .val (.int (3 : Int32)), .val (.ref b123), .val (.ref fr125), .val (.int (1 : Int32))] [(.int ((u3.toInt8.toInt32) &&& (255 : Int32)))])) t
      refine XS.iloadN X170.here hx rfl (hb hby at_162) rfl ?_
      show Steps p.tables e below (T170.setTop (mkF m 163 #[.val (.int u0), .val (.int u1), .val (.int u2), .val (.int u3), .val (.int u4), .val (.int (3 : Int32)), .val (.ref b123), .val (.ref fr125), .val (.int (1 : Int32))] [(.int u3), (.int ((u3.toInt8.toInt32) &&& (255 : Int32)))])) t
      refine XS.sipush X170.here hx rfl (hb hby at_163) ?_
      show Steps p.tables e below (T170.setTop (mkF m 166 #[.val (.int u0), .val (.int u1), .val (.int u2), .val (.int u3), .val (.int u4), .val (.int (3 : Int32)), .val (.ref b123), .val (.ref fr125), .val (.int (1 : Int32))] [(.int (255 : Int32)), (.int u3), (.int ((u3.toInt8.toInt32) &&& (255 : Int32)))])) t
      refine XS.iand X170.here hx rfl (hb hby at_166) rfl ?_
      exact k
    refine OFin.go S171 ?_
    have S172 : ∀ t, Steps p.tables e below (T170.setTop (mkF m 170 #[.val (.int u0), .val (.int u1), .val (.int u2), .val (.int u3), .val (.int u4), .val (.int (3 : Int32)), .val (.ref b123), .val (.ref fr125), .val (.int (1 : Int32))] [])) t → Steps p.tables e below (T170.setTop (mkF m 167 #[.val (.int u0), .val (.int u1), .val (.int u2), .val (.int u3), .val (.int u4), .val (.int (3 : Int32)), .val (.ref b123), .val (.ref fr125), .val (.int (1 : Int32))] [(.int (u3 &&& (255 : Int32))), (.int ((u3.toInt8.toInt32) &&& (255 : Int32)))])) t := by
      intro t k
      show Steps p.tables e below (T170.setTop (mkF m 167 #[.val (.int u0), .val (.int u1), .val (.int u2), .val (.int u3), .val (.int u4), .val (.int (3 : Int32)), .val (.ref b123), .val (.ref fr125), .val (.int (1 : Int32))] [(.int (u3 &&& (255 : Int32))), (.int ((u3.toInt8.toInt32) &&& (255 : Int32)))])) t
      refine XS.icmpNo X170.here hx rfl (hb hby at_167) rfl (teq (own_b _)).2 ?_
      exact k
    refine OFin.go S172 ?_
    have S173 : ∀ t, Steps p.tables e below (T170.setTop (mkF m 180 #[.val (.int u0), .val (.int u1), .val (.int u2), .val (.int u3), .val (.int u4), .val (.int (3 : Int32)), .val (.ref b123), .val (.ref fr125), .val (.int (1 : Int32))] [(.int (4 : Int32)), (.int (3 : Int32))])) t → Steps p.tables e below (T170.setTop (mkF m 170 #[.val (.int u0), .val (.int u1), .val (.int u2), .val (.int u3), .val (.int u4), .val (.int (3 : Int32)), .val (.ref b123), .val (.ref fr125), .val (.int (1 : Int32))] [])) t := by
      intro t k
      show Steps p.tables e below (T170.setTop (mkF m 170 #[.val (.int u0), .val (.int u1), .val (.int u2), .val (.int u3), .val (.int u4), .val (.int (3 : Int32)), .val (.ref b123), .val (.ref fr125), .val (.int (1 : Int32))] [])) t
      refine XS.iconst X170.here hx rfl (hb hby at_170) ?_
      show Steps p.tables e below (T170.setTop (mkF m 171 #[.val (.int u0), .val (.int u1), .val (.int u2), .val (.int u3), .val (.int u4), .val (.int (3 : Int32)), .val (.ref b123), .val (.ref fr125), .val (.int (1 : Int32))] [(.int (1 : Int32))])) t
      refine XS.goto X170.here hx rfl (pc0 := 171) (pc' := 175) rfl (hb hby at_171) (by decide) (by decide) ?_
      show Steps p.tables e below (T170.setTop (mkF m 175 #[.val (.int u0), .val (.int u1), .val (.int u2), .val (.int u3), .val (.int u4), .val (.int (3 : Int32)), .val (.ref b123), .val (.ref fr125), .val (.int (1 : Int32))] [(.int (1 : Int32))])) t
      refine XS.istore X170.here hx rfl (hb hby at_175) rfl (l' := #[.val (.int u0), .val (.int u1), .val (.int u2), .val (.int u3), .val (.int u4), .val (.int (3 : Int32)), .val (.ref b123), .val (.ref fr125), .val (.int (1 : Int32))]) rfl ?_
      show Steps p.tables e below (T170.setTop (mkF m 177 #[.val (.int u0), .val (.int u1), .val (.int u2), .val (.int u3), .val (.int u4), .val (.int (3 : Int32)), .val (.ref b123), .val (.ref fr125), .val (.int (1 : Int32))] [])) t
      refine XS.iload X170.here hx rfl (hb hby at_177) rfl ?_
      show Steps p.tables e below (T170.setTop (mkF m 179 #[.val (.int u0), .val (.int u1), .val (.int u2), .val (.int u3), .val (.int u4), .val (.int (3 : Int32)), .val (.ref b123), .val (.ref fr125), .val (.int (1 : Int32))] [(.int (3 : Int32))])) t
      refine XS.iconst X170.here hx rfl (hb hby at_179) ?_
      exact k
    refine OFin.go S173 ?_
    have S174 : ∀ t, Steps p.tables e below (T170.setTop (mkF m 210 #[.val (.int u0), .val (.int u1), .val (.int u2), .val (.int u3), .val (.int u4), .val (.int (3 : Int32)), .val (.ref b123), .val (.ref fr125), .val (.int (1 : Int32))] [])) t → Steps p.tables e below (T170.setTop (mkF m 180 #[.val (.int u0), .val (.int u1), .val (.int u2), .val (.int u3), .val (.int u4), .val (.int (3 : Int32)), .val (.ref b123), .val (.ref fr125), .val (.int (1 : Int32))] [(.int (4 : Int32)), (.int (3 : Int32))])) t := by
      intro t k
      show Steps p.tables e below (T170.setTop (mkF m 180 #[.val (.int u0), .val (.int u1), .val (.int u2), .val (.int u3), .val (.int u4), .val (.int (3 : Int32)), .val (.ref b123), .val (.ref fr125), .val (.int (1 : Int32))] [(.int (4 : Int32)), (.int (3 : Int32))])) t
      refine XS.icmpYes X170.here hx rfl (pc0 := 180) (pc' := 210) rfl (hb hby at_180) rfl (tlt (by decide)).1 (by decide) (by decide) ?_
      exact k
    refine OFin.go S174 ?_
    have S175 : ∀ t, Steps p.tables e below (T170.setTop (mkF m 212 #[.val (.int u0), .val (.int u1), .val (.int u2), .val (.int u3), .val (.int u4), .val (.int (3 : Int32)), .val (.ref b123), .val (.ref fr125), .val (.int (1 : Int32))] [(.int (1 : Int32))])) t → Steps p.tables e below (T170.setTop (mkF m 210 #[.val (.int u0), .val (.int u1), .val (.int u2), .val (.int u3), .val (.int u4), .val (.int (3 : Int32)), .val (.ref b123), .val (.ref fr125), .val (.int (1 : Int32))] [])) t := by
      intro t k
      show Steps p.tables e below (T170.setTop (mkF m 210 #[.val (.int u0), .val (.int u1), .val (.int u2), .val (.int u3), .val (.int u4), .val (.int (3 : Int32)), .val (.ref b123), .val (.ref fr125), .val (.int (1 : Int32))] [])) t
      refine XS.iload X170.here hx rfl (hb hby at_210) rfl ?_
      exact k
    refine OFin.go S175 ?_
    exact finZ X170 hx Bd.notSynchronized (t := .boolean) Bd.returns (by simp) (hb hby at_212) rfl (by decide) (by decide) (⟨congrArg (fun z => some (Value.int z)) (rfl : (1 : Int32) = (1 : Int32)), N170⟩)
  ·
    subst hkk2'
    show OFin p e below _ (s₁.setTop (mkF m 8 #[.val (.int u0), .val (.int u1), .val (.int u2), .val (.int u3), .val (.int u4), .val (.int (4 : Int32)), .unset, .unset, .unset] []))
    have S176 : ∀ t, Steps p.tables e below (s₁.setTop (mkF m 15 #[.val (.int u0), .val (.int u1), .val (.int u2), .val (.int u3), .val (.int u4), .val (.int (4 : Int32)), .unset, .unset, .unset] [(.int u4), (.int u3), (.int u2), (.int u1), (.int (4 : Int32))])) t → Steps p.tables e below (s₁.setTop (mkF m 8 #[.val (.int u0), .val (.int u1), .val (.int u2), .val (.int u3), .val (.int u4), .val (.int (4 : Int32)), .unset, .unset, .unset] [])) t := by
      intro t k
      show Steps p.tables e below (s₁.setTop (mkF m 8 #[.val (.int u0), .val (.int u1), .val (.int u2), .val (.int u3), .val (.int u4), .val (.int (4 : Int32)), .unset, .unset, .unset] [])) t
      refine XS.iload X0.here hx rfl (hb hby at_8) rfl ?_
      show Steps p.tables e below (s₁.setTop (mkF m 10 #[.val (.int u0), .val (.int u1), .val (.int u2), .val (.int u3), .val (.int u4), .val (.int (4 : Int32)), .unset, .unset, .unset] [(.int (4 : Int32))])) t
      refine XS.iloadN X0.here hx rfl (hb hby at_10) rfl ?_
      show Steps p.tables e below (s₁.setTop (mkF m 11 #[.val (.int u0), .val (.int u1), .val (.int u2), .val (.int u3), .val (.int u4), .val (.int (4 : Int32)), .unset, .unset, .unset] [(.int u1), (.int (4 : Int32))])) t
      refine XS.iloadN X0.here hx rfl (hb hby at_11) rfl ?_
      show Steps p.tables e below (s₁.setTop (mkF m 12 #[.val (.int u0), .val (.int u1), .val (.int u2), .val (.int u3), .val (.int u4), .val (.int (4 : Int32)), .unset, .unset, .unset] [(.int u2), (.int u1), (.int (4 : Int32))])) t
      refine XS.iloadN X0.here hx rfl (hb hby at_12) rfl ?_
      show Steps p.tables e below (s₁.setTop (mkF m 13 #[.val (.int u0), .val (.int u1), .val (.int u2), .val (.int u3), .val (.int u4), .val (.int (4 : Int32)), .unset, .unset, .unset] [(.int u3), (.int u2), (.int u1), (.int (4 : Int32))])) t
      refine XS.iload X0.here hx rfl (hb hby at_13) rfl ?_
      exact k
    refine OFin.go S176 ?_
    obtain ⟨_, T177, Lc177, X177, hQ177, st177⟩ := callQ X0 hx hZ (y := (⟨"com/example/cardbench/cardbench/FrameOfPinLaw", "build", "(IIIII)[B"⟩ : MethodName)) hown (hw _ (List.mem_of_getElem? (i := 1) rfl)) (hw _ (List.mem_of_getElem? (i := 2) rfl)) (hw _ (List.mem_of_getElem? (i := 3) rfl)) (hw _ (List.mem_of_getElem? (i := 4) rfl)) (by decide) (argsL := [(.int (4 : Int32)), (.int u1), (.int u2), (.int u3), (.int u4)]) (rest := []) (rm1_4 l Z a0 hw [] u1 u2 u3 u4 h0 n0 Z0) (W := 0) (by decide) (by decide) e0 (g := (mkF m 15 #[.val (.int u0), .val (.int u1), .val (.int u2), .val (.int u3), .val (.int u4), .val (.int (4 : Int32)), .unset, .unset, .unset] [(.int u4), (.int u3), (.int u2), (.int u1), (.int (4 : Int32))])) rfl (by rw [hml]; rfl) (lenOf pd_1 rfl) rfl (by show 2 * 0 + _ ≤ _; exact Nat.le_of_eq rfl) (hb hby at_15) (Nat.le_of_ble_eq_true rfl) (Nat.le_of_ble_eq_true rfl)
    obtain ⟨b177, rfl, N177q, K177q, hb177, Q177, V177⟩ := hQ177
    have ge177 : n0 ≤ b177 := Nat.le_trans Z0 hb177
    have Z177 : n0 ≤ T177.heap.size := Nat.le_trans Z0 K177q.1
    have N177 := Fr.app N0 N177q
    refine OFin.go st177 ?_
    show OFin p e below _ (T177.setTop (mkF m 18 #[.val (.int u0), .val (.int u1), .val (.int u2), .val (.int u3), .val (.int u4), .val (.int (4 : Int32)), .unset, .unset, .unset] [(.ref b177)]))
    have S178 : ∀ t, Steps p.tables e below (T177.setTop (mkF m 22 #[.val (.int u0), .val (.int u1), .val (.int u2), .val (.int u3), .val (.int u4), .val (.int (4 : Int32)), .val (.ref b177), .unset, .unset] [(.ref b177)])) t → Steps p.tables e below (T177.setTop (mkF m 18 #[.val (.int u0), .val (.int u1), .val (.int u2), .val (.int u3), .val (.int u4), .val (.int (4 : Int32)), .unset, .unset, .unset] [(.ref b177)])) t := by
      intro t k
      show Steps p.tables e below (T177.setTop (mkF m 18 #[.val (.int u0), .val (.int u1), .val (.int u2), .val (.int u3), .val (.int u4), .val (.int (4 : Int32)), .unset, .unset, .unset] [(.ref b177)])) t
      refine XS.astore X177.here hx rfl (hb hby at_18) rfl rfl (l' := #[.val (.int u0), .val (.int u1), .val (.int u2), .val (.int u3), .val (.int u4), .val (.int (4 : Int32)), .val (.ref b177), .unset, .unset]) rfl ?_
      show Steps p.tables e below (T177.setTop (mkF m 20 #[.val (.int u0), .val (.int u1), .val (.int u2), .val (.int u3), .val (.int u4), .val (.int (4 : Int32)), .val (.ref b177), .unset, .unset] [])) t
      refine XS.aload X177.here hx rfl (hb hby at_20) rfl rfl ?_
      exact k
    refine OFin.go S178 ?_
    obtain ⟨_, T179, Lc179, X179, hQ179, st179⟩ := callQ X177 hx hZ (y := (⟨"com/example/cardbench/cardbench/Frame", "of", "([B)Lcom/example/cardbench/cardbench/Frame;"⟩ : MethodName)) hown (hw _ (List.mem_of_getElem? (i := 6) rfl)) (hw _ (List.mem_of_getElem? (i := 7) rfl)) (hw _ (List.mem_of_getElem? (i := 8) rfl)) (hw _ (List.mem_of_getElem? (i := 9) rfl)) (by decide) (argsL := [(.ref b177)]) (rest := []) (rm2 l Z a0 hw [] b177 4 (4 : Int32) (bf u1 u2 u3 u4) T177.heap n0 Z177 V177 Q177 (fun i _ => own_fit _ _ _ _ i) rfl (by decide)) (W := 0) (by decide) (by decide) rfl (g := (mkF m 22 #[.val (.int u0), .val (.int u1), .val (.int u2), .val (.int u3), .val (.int u4), .val (.int (4 : Int32)), .val (.ref b177), .unset, .unset] [(.ref b177)])) rfl (by rw [hml]; rfl) (lenOf pd_2 rfl) rfl (by show 2 * 0 + _ ≤ _; exact Nat.le_of_eq rfl) (hb hby at_22) (Nat.le_of_ble_eq_true rfl) (Nat.le_of_ble_eq_true rfl)
    obtain ⟨fr179, b179, rfl, N179q, K179q, hf179, hb179, ne179, E179, Fb179, Fi179, V179⟩ := hQ179
    have q180 : b177 ≠ fr179 := Nat.ne_of_lt (Nat.lt_of_lt_of_le V177.lt hf179)
    have ge179f : n0 ≤ fr179 := Nat.le_trans Z177 hf179
    have q181 : b177 ≠ b179 := Nat.ne_of_lt (Nat.lt_of_lt_of_le V177.lt hb179)
    have ge179 : n0 ≤ b179 := Nat.le_trans Z177 hb179
    have Z179 : n0 ≤ T179.heap.size := Nat.le_trans Z177 K179q.1
    have N179 := Fr.app N177 N179q
    refine OFin.go st179 ?_
    show OFin p e below _ (T179.setTop (mkF m 25 #[.val (.int u0), .val (.int u1), .val (.int u2), .val (.int u3), .val (.int u4), .val (.int (4 : Int32)), .val (.ref b177), .unset, .unset] [(.ref fr179)]))
    have S182 : ∀ t, Steps p.tables e below (T179.setTop (mkF m 30 #[.val (.int u0), .val (.int u1), .val (.int u2), .val (.int u3), .val (.int u4), .val (.int (4 : Int32)), .val (.ref b177), .val (.ref fr179), .unset] [(.int (1 : Int32)), (.int (4 : Int32))])) t → Steps p.tables e below (T179.setTop (mkF m 25 #[.val (.int u0), .val (.int u1), .val (.int u2), .val (.int u3), .val (.int u4), .val (.int (4 : Int32)), .val (.ref b177), .unset, .unset] [(.ref fr179)])) t := by
      intro t k
      show Steps p.tables e below (T179.setTop (mkF m 25 #[.val (.int u0), .val (.int u1), .val (.int u2), .val (.int u3), .val (.int u4), .val (.int (4 : Int32)), .val (.ref b177), .unset, .unset] [(.ref fr179)])) t
      refine XS.astore X179.here hx rfl (hb hby at_25) rfl rfl (l' := #[.val (.int u0), .val (.int u1), .val (.int u2), .val (.int u3), .val (.int u4), .val (.int (4 : Int32)), .val (.ref b177), .val (.ref fr179), .unset]) rfl ?_
      show Steps p.tables e below (T179.setTop (mkF m 27 #[.val (.int u0), .val (.int u1), .val (.int u2), .val (.int u3), .val (.int u4), .val (.int (4 : Int32)), .val (.ref b177), .val (.ref fr179), .unset] [])) t
      refine XS.iload X179.here hx rfl (hb hby at_27) rfl ?_
      show Steps p.tables e below (T179.setTop (mkF m 29 #[.val (.int u0), .val (.int u1), .val (.int u2), .val (.int u3), .val (.int u4), .val (.int (4 : Int32)), .val (.ref b177), .val (.ref fr179), .unset] [(.int (4 : Int32))])) t
      refine XS.iconst X179.here hx rfl (hb hby at_29) ?_
      exact k
    refine OFin.go S182 ?_
    have S183 : ∀ t, Steps p.tables e below (T179.setTop (mkF m 33 #[.val (.int u0), .val (.int u1), .val (.int u2), .val (.int u3), .val (.int u4), .val (.int (4 : Int32)), .val (.ref b177), .val (.ref fr179), .unset] [])) t → Steps p.tables e below (T179.setTop (mkF m 30 #[.val (.int u0), .val (.int u1), .val (.int u2), .val (.int u3), .val (.int u4), .val (.int (4 : Int32)), .val (.ref b177), .val (.ref fr179), .unset] [(.int (1 : Int32)), (.int (4 : Int32))])) t := by
      intro t k
      show Steps p.tables e below (T179.setTop (mkF m 30 #[.val (.int u0), .val (.int u1), .val (.int u2), .val (.int u3), .val (.int u4), .val (.int (4 : Int32)), .val (.ref b177), .val (.ref fr179), .unset] [(.int (1 : Int32)), (.int (4 : Int32))])) t
      refine XS.icmpNo X179.here hx rfl (hb hby at_30) rfl (flt (by decide)).1 ?_
      exact k
    refine OFin.go S183 ?_
    have S184 : ∀ t, Steps p.tables e below (T179.setTop (mkF m 40 #[.val (.int u0), .val (.int u1), .val (.int u2), .val (.int u3), .val (.int u4), .val (.int (4 : Int32)), .val (.ref b177), .val (.ref fr179), .unset] [(.int ((u1 ^^^ (-1 : Int32)).toInt8.toInt32)), (.int (0 : Int32)), (.ref b177)])) t → Steps p.tables e below (T179.setTop (mkF m 33 #[.val (.int u0), .val (.int u1), .val (.int u2), .val (.int u3), .val (.int u4), .val (.int (4 : Int32)), .val (.ref b177), .val (.ref fr179), .unset] [])) t := by
      intro t k
      show Steps p.tables e below (T179.setTop (mkF m 33 #[.val (.int u0), .val (.int u1), .val (.int u2), .val (.int u3), .val (.int u4), .val (.int (4 : Int32)), .val (.ref b177), .val (.ref fr179), .unset] [])) t
      refine XS.aload X179.here hx rfl (hb hby at_33) rfl rfl ?_
      show Steps p.tables e below (T179.setTop (mkF m 35 #[.val (.int u0), .val (.int u1), .val (.int u2), .val (.int u3), .val (.int u4), .val (.int (4 : Int32)), .val (.ref b177), .val (.ref fr179), .unset] [(.ref b177)])) t
      refine XS.iconst X179.here hx rfl (hb hby at_35) ?_
      show Steps p.tables e below (T179.setTop (mkF m 36 #[.val (.int u0), .val (.int u1), .val (.int u2), .val (.int u3), .val (.int u4), .val (.int (4 : Int32)), .val (.ref b177), .val (.ref fr179), .unset] [(.int (0 : Int32)), (.ref b177)])) t
      refine XS.iloadN X179.here hx rfl (hb hby at_36) rfl ?_
      show Steps p.tables e below (T179.setTop (mkF m 37 #[.val (.int u0), .val (.int u1), .val (.int u2), .val (.int u3), .val (.int u4), .val (.int (4 : Int32)), .val (.ref b177), .val (.ref fr179), .unset] [(.int u1), (.int (0 : Int32)), (.ref b177)])) t
      refine XS.iconst X179.here hx rfl (hb hby at_37) ?_
      show Steps p.tables e below (T179.setTop (mkF m 38 #[.val (.int u0), .val (.int u1), .val (.int u2), .val (.int u3), .val (.int u4), .val (.int (4 : Int32)), .val (.ref b177), .val (.ref fr179), .unset] [(.int (-1 : Int32)), (.int u1), (.int (0 : Int32)), (.ref b177)])) t
      refine XS.ixor X179.here hx rfl (hb hby at_38) rfl ?_
      show Steps p.tables e below (T179.setTop (mkF m 39 #[.val (.int u0), .val (.int u1), .val (.int u2), .val (.int u3), .val (.int u4), .val (.int (4 : Int32)), .val (.ref b177), .val (.ref fr179), .unset] [(.int (u1 ^^^ (-1 : Int32))), (.int (0 : Int32)), (.ref b177)])) t
      refine XS.i2b X179.here hx rfl (hb hby at_39) rfl ?_
      exact k
    refine OFin.go S184 ?_
    have F185 := V177.keep K179q nin0
    obtain ⟨T186, h186, X186, e186, W186, st186⟩ := wrB X179 hx hZ rfl F185 (i := 0) (by decide) rfl (by decide) (y' := ((u1 ^^^ (-1 : Int32)).toInt8.toInt32)) (nar_b _) (g := (mkF m 40 #[.val (.int u0), .val (.int u1), .val (.int u2), .val (.int u3), .val (.int u4), .val (.int (4 : Int32)), .val (.ref b177), .val (.ref fr179), .unset] [(.int ((u1 ^^^ (-1 : Int32)).toInt8.toInt32)), (.int (0 : Int32)), (.ref b177)])) rfl rfl (hb hby at_40)
    have V186 := F185.set W186
    have N186 := Fr.snoc X186 N179 ge177
    have Z186 : n0 ≤ h186.size := Nat.le_trans Z179 (wr_le W186)
    refine OFin.go st186 ?_
    show OFin p e below _ (T186.setTop (mkF m 41 #[.val (.int u0), .val (.int u1), .val (.int u2), .val (.int u3), .val (.int u4), .val (.int (4 : Int32)), .val (.ref b177), .val (.ref fr179), .unset] []))
    have S187 : ∀ t, Steps p.tables e below (T186.setTop (mkF m 43 #[.val (.int u0), .val (.int u1), .val (.int u2), .val (.int u3), .val (.int u4), .val (.int (4 : Int32)), .val (.ref b177), .val (.ref fr179), .unset] [(.ref fr179)])) t → Steps p.tables e below (T186.setTop (mkF m 41 #[.val (.int u0), .val (.int u1), .val (.int u2), .val (.int u3), .val (.int u4), .val (.int (4 : Int32)), .val (.ref b177), .val (.ref fr179), .unset] [])) t := by
      intro t k
      show Steps p.tables e below (T186.setTop (mkF m 41 #[.val (.int u0), .val (.int u1), .val (.int u2), .val (.int u3), .val (.int u4), .val (.int (4 : Int32)), .val (.ref b177), .val (.ref fr179), .unset] [])) t
      refine XS.aload X186.here hx rfl (hb hby at_41) rfl rfl ?_
      exact k
    refine OFin.go S187 ?_
    have F189 := Fb179.other W186 (Or.inl (Ne.symm q180))
    have F190 := V179.other W186 (Ne.symm q181)
    have F191 := E179.wr W186
    obtain ⟨_, T188, Lc188, X188, hQ188, st188⟩ := virtQ X186 hx hZ (y := (⟨"com/example/cardbench/cardbench/Frame", "length", "()I"⟩ : MethodName)) hown (hw _ (List.mem_of_getElem? (i := 31) rfl)) (hw _ (List.mem_of_getElem? (i := 33) rfl)) (hw _ (List.mem_of_getElem? (i := 8) rfl)) (hw _ (List.mem_of_getElem? (i := 35) rfl)) (hw _ (List.mem_of_getElem? (i := 32) rfl)) (hw _ (List.mem_of_getElem? (i := 34) rfl)) (by decide) F191 (argsL := []) (rest := []) (rm5 l Z a0 hw [] fr179 b179 4 (4 : Int32) (bf u1 u2 u3 u4) h186 n0 Z186 F189 F190 rfl) (W := 0) (by decide) (by decide) e186 (g := (mkF m 43 #[.val (.int u0), .val (.int u1), .val (.int u2), .val (.int u3), .val (.int u4), .val (.int (4 : Int32)), .val (.ref b177), .val (.ref fr179), .unset] [(.ref fr179)])) rfl (by rw [hml]; rfl) (lenOf pd_3 rfl) rfl (by show 2 * 0 + _ ≤ _; exact Nat.le_of_eq rfl) (hb hby at_43) (Nat.le_of_ble_eq_true rfl) (Nat.le_of_ble_eq_true rfl)
    obtain ⟨rfl, N188q, e188⟩ := hQ188
    have N188 := Fr.app N186 N188q
    refine OFin.go st188 ?_
    show OFin p e below _ (T188.setTop (mkF m 46 #[.val (.int u0), .val (.int u1), .val (.int u2), .val (.int u3), .val (.int u4), .val (.int (4 : Int32)), .val (.ref b177), .val (.ref fr179), .unset] [(.int (4 : Int32))]))
    have S192 : ∀ t, Steps p.tables e below (T188.setTop (mkF m 48 #[.val (.int u0), .val (.int u1), .val (.int u2), .val (.int u3), .val (.int u4), .val (.int (4 : Int32)), .val (.ref b177), .val (.ref fr179), .unset] [(.int (4 : Int32)), (.int (4 : Int32))])) t → Steps p.tables e below (T188.setTop (mkF m 46 #[.val (.int u0), .val (.int u1), .val (.int u2), .val (.int u3), .val (.int u4), .val (.int (4 : Int32)), .val (.ref b177), .val (.ref fr179), .unset] [(.int (4 : Int32))])) t := by
      intro t k
      show Steps p.tables e below (T188.setTop (mkF m 46 #[.val (.int u0), .val (.int u1), .val (.int u2), .val (.int u3), .val (.int u4), .val (.int (4 : Int32)), .val (.ref b177), .val (.ref fr179), .unset] [(.int (4 : Int32))])) t
      refine XS.iload X188.here hx rfl (hb hby at_46) rfl ?_
      exact k
    refine OFin.go S192 ?_
    have S193 : ∀ t, Steps p.tables e below (T188.setTop (mkF m 51 #[.val (.int u0), .val (.int u1), .val (.int u2), .val (.int u3), .val (.int u4), .val (.int (4 : Int32)), .val (.ref b177), .val (.ref fr179), .unset] [])) t → Steps p.tables e below (T188.setTop (mkF m 48 #[.val (.int u0), .val (.int u1), .val (.int u2), .val (.int u3), .val (.int u4), .val (.int (4 : Int32)), .val (.ref b177), .val (.ref fr179), .unset] [(.int (4 : Int32)), (.int (4 : Int32))])) t := by
      intro t k
      show Steps p.tables e below (T188.setTop (mkF m 48 #[.val (.int u0), .val (.int u1), .val (.int u2), .val (.int u3), .val (.int u4), .val (.int (4 : Int32)), .val (.ref b177), .val (.ref fr179), .unset] [(.int (4 : Int32)), (.int (4 : Int32))])) t
      refine XS.icmpNo X188.here hx rfl (hb hby at_48) rfl (teq (by decide)).2 ?_
      exact k
    refine OFin.go S193 ?_
    have S194 : ∀ t, Steps p.tables e below (T188.setTop (mkF m 53 #[.val (.int u0), .val (.int u1), .val (.int u2), .val (.int u3), .val (.int u4), .val (.int (4 : Int32)), .val (.ref b177), .val (.ref fr179), .unset] [(.ref fr179)])) t → Steps p.tables e below (T188.setTop (mkF m 51 #[.val (.int u0), .val (.int u1), .val (.int u2), .val (.int u3), .val (.int u4), .val (.int (4 : Int32)), .val (.ref b177), .val (.ref fr179), .unset] [])) t := by
      intro t k
      show Steps p.tables e below (T188.setTop (mkF m 51 #[.val (.int u0), .val (.int u1), .val (.int u2), .val (.int u3), .val (.int u4), .val (.int (4 : Int32)), .val (.ref b177), .val (.ref fr179), .unset] [])) t
      refine XS.aload X188.here hx rfl (hb hby at_51) rfl rfl ?_
      exact k
    refine OFin.go S194 ?_
    have F196 := Fi179.other W186 (Or.inl (Ne.symm q180))
    obtain ⟨_, T195, Lc195, X195, hQ195, st195⟩ := virtQ X188 hx hZ (y := (⟨"com/example/cardbench/cardbench/Frame", "bits", "()I"⟩ : MethodName)) hown (hw _ (List.mem_of_getElem? (i := 36) rfl)) (hw _ (List.mem_of_getElem? (i := 38) rfl)) (hw _ (List.mem_of_getElem? (i := 8) rfl)) (hw _ (List.mem_of_getElem? (i := 40) rfl)) (hw _ (List.mem_of_getElem? (i := 37) rfl)) (hw _ (List.mem_of_getElem? (i := 39) rfl)) (by decide) F191 (argsL := []) (rest := []) (rm6 l Z a0 hw [] fr179 (32 : Int32) h186 n0 Z186 F196) (W := 0) (by decide) (by decide) e188 (g := (mkF m 53 #[.val (.int u0), .val (.int u1), .val (.int u2), .val (.int u3), .val (.int u4), .val (.int (4 : Int32)), .val (.ref b177), .val (.ref fr179), .unset] [(.ref fr179)])) rfl (by rw [hml]; rfl) (lenOf pd_3 rfl) rfl (by show 2 * 0 + _ ≤ _; exact Nat.le_of_eq rfl) (hb hby at_53) (Nat.le_of_ble_eq_true rfl) (Nat.le_of_ble_eq_true rfl)
    obtain ⟨rfl, N195q, e195⟩ := hQ195
    have N195 := Fr.app N188 N195q
    refine OFin.go st195 ?_
    show OFin p e below _ (T195.setTop (mkF m 56 #[.val (.int u0), .val (.int u1), .val (.int u2), .val (.int u3), .val (.int u4), .val (.int (4 : Int32)), .val (.ref b177), .val (.ref fr179), .unset] [(.int (32 : Int32))]))
    have S197 : ∀ t, Steps p.tables e below (T195.setTop (mkF m 61 #[.val (.int u0), .val (.int u1), .val (.int u2), .val (.int u3), .val (.int u4), .val (.int (4 : Int32)), .val (.ref b177), .val (.ref fr179), .unset] [(.int (32 : Int32)), (.int (32 : Int32))])) t → Steps p.tables e below (T195.setTop (mkF m 56 #[.val (.int u0), .val (.int u1), .val (.int u2), .val (.int u3), .val (.int u4), .val (.int (4 : Int32)), .val (.ref b177), .val (.ref fr179), .unset] [(.int (32 : Int32))])) t := by
      intro t k
      show Steps p.tables e below (T195.setTop (mkF m 56 #[.val (.int u0), .val (.int u1), .val (.int u2), .val (.int u3), .val (.int u4), .val (.int (4 : Int32)), .val (.ref b177), .val (.ref fr179), .unset] [(.int (32 : Int32))])) t
      refine XS.bipush X195.here hx rfl (hb hby at_56) ?_
      show Steps p.tables e below (T195.setTop (mkF m 58 #[.val (.int u0), .val (.int u1), .val (.int u2), .val (.int u3), .val (.int u4), .val (.int (4 : Int32)), .val (.ref b177), .val (.ref fr179), .unset] [(.int (8 : Int32)), (.int (32 : Int32))])) t
      refine XS.iload X195.here hx rfl (hb hby at_58) rfl ?_
      show Steps p.tables e below (T195.setTop (mkF m 60 #[.val (.int u0), .val (.int u1), .val (.int u2), .val (.int u3), .val (.int u4), .val (.int (4 : Int32)), .val (.ref b177), .val (.ref fr179), .unset] [(.int (4 : Int32)), (.int (8 : Int32)), (.int (32 : Int32))])) t
      refine XS.imul X195.here hx rfl (hb hby at_60) rfl ?_
      exact k
    refine OFin.go S197 ?_
    have S198 : ∀ t, Steps p.tables e below (T195.setTop (mkF m 64 #[.val (.int u0), .val (.int u1), .val (.int u2), .val (.int u3), .val (.int u4), .val (.int (4 : Int32)), .val (.ref b177), .val (.ref fr179), .unset] [])) t → Steps p.tables e below (T195.setTop (mkF m 61 #[.val (.int u0), .val (.int u1), .val (.int u2), .val (.int u3), .val (.int u4), .val (.int (4 : Int32)), .val (.ref b177), .val (.ref fr179), .unset] [(.int (32 : Int32)), (.int (32 : Int32))])) t := by
      intro t k
      show Steps p.tables e below (T195.setTop (mkF m 61 #[.val (.int u0), .val (.int u1), .val (.int u2), .val (.int u3), .val (.int u4), .val (.int (4 : Int32)), .val (.ref b177), .val (.ref fr179), .unset] [(.int (32 : Int32)), (.int (32 : Int32))])) t
      refine XS.icmpNo X195.here hx rfl (hb hby at_61) rfl (teq (by decide)).2 ?_
      exact k
    refine OFin.go S198 ?_
    have S199 : ∀ t, Steps p.tables e below (T195.setTop (mkF m 66 #[.val (.int u0), .val (.int u1), .val (.int u2), .val (.int u3), .val (.int u4), .val (.int (4 : Int32)), .val (.ref b177), .val (.ref fr179), .unset] [(.ref fr179)])) t → Steps p.tables e below (T195.setTop (mkF m 64 #[.val (.int u0), .val (.int u1), .val (.int u2), .val (.int u3), .val (.int u4), .val (.int (4 : Int32)), .val (.ref b177), .val (.ref fr179), .unset] [])) t := by
      intro t k
      show Steps p.tables e below (T195.setTop (mkF m 64 #[.val (.int u0), .val (.int u1), .val (.int u2), .val (.int u3), .val (.int u4), .val (.int (4 : Int32)), .val (.ref b177), .val (.ref fr179), .unset] [])) t
      refine XS.aload X195.here hx rfl (hb hby at_64) rfl rfl ?_
      exact k
    refine OFin.go S199 ?_
    obtain ⟨_, T200, Lc200, X200, hQ200, st200⟩ := virtQ X195 hx hZ (y := (⟨"com/example/cardbench/cardbench/Frame", "parityBits", "()I"⟩ : MethodName)) hown (hw _ (List.mem_of_getElem? (i := 41) rfl)) (hw _ (List.mem_of_getElem? (i := 43) rfl)) (hw _ (List.mem_of_getElem? (i := 8) rfl)) (hw _ (List.mem_of_getElem? (i := 45) rfl)) (hw _ (List.mem_of_getElem? (i := 42) rfl)) (hw _ (List.mem_of_getElem? (i := 44) rfl)) (by decide) F191 (argsL := []) (rest := []) (rm7 l Z a0 hw [] fr179 b179 4 (4 : Int32) (bf u1 u2 u3 u4) (32 : Int32) h186 n0 Z186 F189 F190 rfl F196 (by decide)) (W := 0) (by decide) (by decide) e195 (g := (mkF m 66 #[.val (.int u0), .val (.int u1), .val (.int u2), .val (.int u3), .val (.int u4), .val (.int (4 : Int32)), .val (.ref b177), .val (.ref fr179), .unset] [(.ref fr179)])) rfl (by rw [hml]; rfl) (lenOf pd_3 rfl) rfl (by show 2 * 0 + _ ≤ _; exact Nat.le_of_eq rfl) (hb hby at_66) (Nat.le_of_ble_eq_true rfl) (Nat.le_of_ble_eq_true rfl)
    obtain ⟨rfl, N200q, e200⟩ := hQ200
    have N200 := Fr.app N195 N200q
    refine OFin.go st200 ?_
    show OFin p e below _ (T200.setTop (mkF m 69 #[.val (.int u0), .val (.int u1), .val (.int u2), .val (.int u3), .val (.int u4), .val (.int (4 : Int32)), .val (.ref b177), .val (.ref fr179), .unset] [(.int (4 : Int32))]))
    have S201 : ∀ t, Steps p.tables e below (T200.setTop (mkF m 71 #[.val (.int u0), .val (.int u1), .val (.int u2), .val (.int u3), .val (.int u4), .val (.int (4 : Int32)), .val (.ref b177), .val (.ref fr179), .unset] [(.int (4 : Int32)), (.int (4 : Int32))])) t → Steps p.tables e below (T200.setTop (mkF m 69 #[.val (.int u0), .val (.int u1), .val (.int u2), .val (.int u3), .val (.int u4), .val (.int (4 : Int32)), .val (.ref b177), .val (.ref fr179), .unset] [(.int (4 : Int32))])) t := by
      intro t k
      show Steps p.tables e below (T200.setTop (mkF m 69 #[.val (.int u0), .val (.int u1), .val (.int u2), .val (.int u3), .val (.int u4), .val (.int (4 : Int32)), .val (.ref b177), .val (.ref fr179), .unset] [(.int (4 : Int32))])) t
      refine XS.iload X200.here hx rfl (hb hby at_69) rfl ?_
      exact k
    refine OFin.go S201 ?_
    have S202 : ∀ t, Steps p.tables e below (T200.setTop (mkF m 74 #[.val (.int u0), .val (.int u1), .val (.int u2), .val (.int u3), .val (.int u4), .val (.int (4 : Int32)), .val (.ref b177), .val (.ref fr179), .unset] [])) t → Steps p.tables e below (T200.setTop (mkF m 71 #[.val (.int u0), .val (.int u1), .val (.int u2), .val (.int u3), .val (.int u4), .val (.int (4 : Int32)), .val (.ref b177), .val (.ref fr179), .unset] [(.int (4 : Int32)), (.int (4 : Int32))])) t := by
      intro t k
      show Steps p.tables e below (T200.setTop (mkF m 71 #[.val (.int u0), .val (.int u1), .val (.int u2), .val (.int u3), .val (.int u4), .val (.int (4 : Int32)), .val (.ref b177), .val (.ref fr179), .unset] [(.int (4 : Int32)), (.int (4 : Int32))])) t
      refine XS.icmpNo X200.here hx rfl (hb hby at_71) rfl (teq (by decide)).2 ?_
      exact k
    refine OFin.go S202 ?_
    have S203 : ∀ t, Steps p.tables e below (T200.setTop (mkF m 84 #[.val (.int u0), .val (.int u1), .val (.int u2), .val (.int u3), .val (.int u4), .val (.int (4 : Int32)), .val (.ref b177), .val (.ref fr179), .val (.int (1 : Int32))] [(.int (1 : Int32)), (.int (4 : Int32))])) t → Steps p.tables e below (T200.setTop (mkF m 74 #[.val (.int u0), .val (.int u1), .val (.int u2), .val (.int u3), .val (.int u4), .val (.int (4 : Int32)), .val (.ref b177), .val (.ref fr179), .unset] [])) t := by
      intro t k
      show Steps p.tables e below (T200.setTop (mkF m 74 #[.val (.int u0), .val (.int u1), .val (.int u2), .val (.int u3), .val (.int u4), .val (.int (4 : Int32)), .val (.ref b177), .val (.ref fr179), .unset] [])) t
      refine XS.iconst X200.here hx rfl (hb hby at_74) ?_
      show Steps p.tables e below (T200.setTop (mkF m 75 #[.val (.int u0), .val (.int u1), .val (.int u2), .val (.int u3), .val (.int u4), .val (.int (4 : Int32)), .val (.ref b177), .val (.ref fr179), .unset] [(.int (1 : Int32))])) t
      refine XS.goto X200.here hx rfl (pc0 := 75) (pc' := 79) rfl (hb hby at_75) (by decide) (by decide) ?_
      show Steps p.tables e below (T200.setTop (mkF m 79 #[.val (.int u0), .val (.int u1), .val (.int u2), .val (.int u3), .val (.int u4), .val (.int (4 : Int32)), .val (.ref b177), .val (.ref fr179), .unset] [(.int (1 : Int32))])) t
      refine XS.istore X200.here hx rfl (hb hby at_79) rfl (l' := #[.val (.int u0), .val (.int u1), .val (.int u2), .val (.int u3), .val (.int u4), .val (.int (4 : Int32)), .val (.ref b177), .val (.ref fr179), .val (.int (1 : Int32))]) rfl ?_
      show Steps p.tables e below (T200.setTop (mkF m 81 #[.val (.int u0), .val (.int u1), .val (.int u2), .val (.int u3), .val (.int u4), .val (.int (4 : Int32)), .val (.ref b177), .val (.ref fr179), .val (.int (1 : Int32))] [])) t
      refine XS.iload X200.here hx rfl (hb hby at_81) rfl ?_
      show Steps p.tables e below (T200.setTop (mkF m 83 #[.val (.int u0), .val (.int u1), .val (.int u2), .val (.int u3), .val (.int u4), .val (.int (4 : Int32)), .val (.ref b177), .val (.ref fr179), .val (.int (1 : Int32))] [(.int (4 : Int32))])) t
      refine XS.iconst X200.here hx rfl (hb hby at_83) ?_
      exact k
    refine OFin.go S203 ?_
    have S204 : ∀ t, Steps p.tables e below (T200.setTop (mkF m 87 #[.val (.int u0), .val (.int u1), .val (.int u2), .val (.int u3), .val (.int u4), .val (.int (4 : Int32)), .val (.ref b177), .val (.ref fr179), .val (.int (1 : Int32))] [])) t → Steps p.tables e below (T200.setTop (mkF m 84 #[.val (.int u0), .val (.int u1), .val (.int u2), .val (.int u3), .val (.int u4), .val (.int (4 : Int32)), .val (.ref b177), .val (.ref fr179), .val (.int (1 : Int32))] [(.int (1 : Int32)), (.int (4 : Int32))])) t := by
      intro t k
      show Steps p.tables e below (T200.setTop (mkF m 84 #[.val (.int u0), .val (.int u1), .val (.int u2), .val (.int u3), .val (.int u4), .val (.int (4 : Int32)), .val (.ref b177), .val (.ref fr179), .val (.int (1 : Int32))] [(.int (1 : Int32)), (.int (4 : Int32))])) t
      refine XS.icmpNo X200.here hx rfl (hb hby at_84) rfl (flt (by decide)).1 ?_
      exact k
    refine OFin.go S204 ?_
    have S205 : ∀ t, Steps p.tables e below (T200.setTop (mkF m 89 #[.val (.int u0), .val (.int u1), .val (.int u2), .val (.int u3), .val (.int u4), .val (.int (4 : Int32)), .val (.ref b177), .val (.ref fr179), .val (.int (1 : Int32))] [(.int (1 : Int32))])) t → Steps p.tables e below (T200.setTop (mkF m 87 #[.val (.int u0), .val (.int u1), .val (.int u2), .val (.int u3), .val (.int u4), .val (.int (4 : Int32)), .val (.ref b177), .val (.ref fr179), .val (.int (1 : Int32))] [])) t := by
      intro t k
      show Steps p.tables e below (T200.setTop (mkF m 87 #[.val (.int u0), .val (.int u1), .val (.int u2), .val (.int u3), .val (.int u4), .val (.int (4 : Int32)), .val (.ref b177), .val (.ref fr179), .val (.int (1 : Int32))] [])) t
      refine XS.iload X200.here hx rfl (hb hby at_87) rfl ?_
      exact k
    refine OFin.go S205 ?_
    have S206 : ∀ t, Steps p.tables e below (T200.setTop (mkF m 92 #[.val (.int u0), .val (.int u1), .val (.int u2), .val (.int u3), .val (.int u4), .val (.int (4 : Int32)), .val (.ref b177), .val (.ref fr179), .val (.int (1 : Int32))] [])) t → Steps p.tables e below (T200.setTop (mkF m 89 #[.val (.int u0), .val (.int u1), .val (.int u2), .val (.int u3), .val (.int u4), .val (.int (4 : Int32)), .val (.ref b177), .val (.ref fr179), .val (.int (1 : Int32))] [(.int (1 : Int32))])) t := by
      intro t k
      show Steps p.tables e below (T200.setTop (mkF m 89 #[.val (.int u0), .val (.int u1), .val (.int u2), .val (.int u3), .val (.int u4), .val (.int (4 : Int32)), .val (.ref b177), .val (.ref fr179), .val (.int (1 : Int32))] [(.int (1 : Int32))])) t
      refine XS.ifNo X200.here hx rfl (hb hby at_89) rfl ((if0 _ _).trans (feq (by decide)).1) ?_
      exact k
    refine OFin.go S206 ?_
    have S207 : ∀ t, Steps p.tables e below (T200.setTop (mkF m 95 #[.val (.int u0), .val (.int u1), .val (.int u2), .val (.int u3), .val (.int u4), .val (.int (4 : Int32)), .val (.ref b177), .val (.ref fr179), .val (.int (1 : Int32))] [(.int (0 : Int32)), (.ref fr179)])) t → Steps p.tables e below (T200.setTop (mkF m 92 #[.val (.int u0), .val (.int u1), .val (.int u2), .val (.int u3), .val (.int u4), .val (.int (4 : Int32)), .val (.ref b177), .val (.ref fr179), .val (.int (1 : Int32))] [])) t := by
      intro t k
      show Steps p.tables e below (T200.setTop (mkF m 92 #[.val (.int u0), .val (.int u1), .val (.int u2), .val (.int u3), .val (.int u4), .val (.int (4 : Int32)), .val (.ref b177), .val (.ref fr179), .val (.int (1 : Int32))] [])) t
      refine XS.aload X200.here hx rfl (hb hby at_92) rfl rfl ?_
      show Steps p.tables e below (T200.setTop (mkF m 94 #[.val (.int u0), .val (.int u1), .val (.int u2), .val (.int u3), .val (.int u4), .val (.int (4 : Int32)), .val (.ref b177), .val (.ref fr179), .val (.int (1 : Int32))] [(.ref fr179)])) t
      refine XS.iconst X200.here hx rfl (hb hby at_94) ?_
      exact k
    refine OFin.go S207 ?_
    obtain ⟨_, T208, Lc208, X208, hQ208, st208⟩ := virtQ X200 hx hZ (y := (⟨"com/example/cardbench/cardbench/Frame", "get", "(I)I"⟩ : MethodName)) hown (hw _ (List.mem_of_getElem? (i := 46) rfl)) (hw _ (List.mem_of_getElem? (i := 48) rfl)) (hw _ (List.mem_of_getElem? (i := 8) rfl)) (hw _ (List.mem_of_getElem? (i := 50) rfl)) (hw _ (List.mem_of_getElem? (i := 47) rfl)) (hw _ (List.mem_of_getElem? (i := 49) rfl)) (by decide) F191 (argsL := [(.int (0 : Int32))]) (rest := []) (rm8 l Z a0 hw [] fr179 (0 : Int32) b179 4 (bf u1 u2 u3 u4) (u1.toInt8.toInt32) h186 n0 Z186 F189 F190 (by decide) (by decide) rfl) (W := 0) (by decide) (by decide) e200 (g := (mkF m 95 #[.val (.int u0), .val (.int u1), .val (.int u2), .val (.int u3), .val (.int u4), .val (.int (4 : Int32)), .val (.ref b177), .val (.ref fr179), .val (.int (1 : Int32))] [(.int (0 : Int32)), (.ref fr179)])) rfl (by rw [hml]; rfl) (lenOf pd_4 rfl) rfl (by show 2 * 0 + _ ≤ _; exact Nat.le_of_eq rfl) (hb hby at_95) (Nat.le_of_ble_eq_true rfl) (Nat.le_of_ble_eq_true rfl)
    obtain ⟨rfl, N208q, e208⟩ := hQ208
    have N208 := Fr.app N200 N208q
    refine OFin.go st208 ?_
    show OFin p e below _ (T208.setTop (mkF m 98 #[.val (.int u0), .val (.int u1), .val (.int u2), .val (.int u3), .val (.int u4), .val (.int (4 : Int32)), .val (.ref b177), .val (.ref fr179), .val (.int (1 : Int32))] [(.int ((u1.toInt8.toInt32) &&& (255 : Int32)))]))
    have S209 : ∀ t, Steps p.tables e below (T208.setTop (mkF m 103 #[.val (.int u0), .val (.int u1), .val (.int u2), .val (.int u3), .val (.int u4), .val (.int (4 : Int32)), .val (.ref b177), .val (.ref fr179), .val (.int (1 : Int32))] [(.int (u1 &&& (255 : Int32))), (.int ((u1.toInt8.toInt32) &&& (255 : Int32)))])) t → Steps p.tables e below (T208.setTop (mkF m 98 #[.val (.int u0), .val (.int u1), .val (.int u2), .val (.int u3), .val (.int u4), .val (.int (4 : Int32)), .val (.ref b177), .val (.ref fr179), .val (.int (1 : Int32))] [(.int ((u1.toInt8.toInt32) &&& (255 : Int32)))])) t := by
      intro t k
      show Steps p.tables e below (T208.setTop (mkF m 98 #[.val (.int u0), .val (.int u1), .val (.int u2), .val (.int u3), .val (.int u4), .val (.int (4 : Int32)), .val (.ref b177), .val (.ref fr179), .val (.int (1 : Int32))] [(.int ((u1.toInt8.toInt32) &&& (255 : Int32)))])) t
      refine XS.iloadN X208.here hx rfl (hb hby at_98) rfl ?_
      show Steps p.tables e below (T208.setTop (mkF m 99 #[.val (.int u0), .val (.int u1), .val (.int u2), .val (.int u3), .val (.int u4), .val (.int (4 : Int32)), .val (.ref b177), .val (.ref fr179), .val (.int (1 : Int32))] [(.int u1), (.int ((u1.toInt8.toInt32) &&& (255 : Int32)))])) t
      refine XS.sipush X208.here hx rfl (hb hby at_99) ?_
      show Steps p.tables e below (T208.setTop (mkF m 102 #[.val (.int u0), .val (.int u1), .val (.int u2), .val (.int u3), .val (.int u4), .val (.int (4 : Int32)), .val (.ref b177), .val (.ref fr179), .val (.int (1 : Int32))] [(.int (255 : Int32)), (.int u1), (.int ((u1.toInt8.toInt32) &&& (255 : Int32)))])) t
      refine XS.iand X208.here hx rfl (hb hby at_102) rfl ?_
      exact k
    refine OFin.go S209 ?_
    have S210 : ∀ t, Steps p.tables e below (T208.setTop (mkF m 106 #[.val (.int u0), .val (.int u1), .val (.int u2), .val (.int u3), .val (.int u4), .val (.int (4 : Int32)), .val (.ref b177), .val (.ref fr179), .val (.int (1 : Int32))] [])) t → Steps p.tables e below (T208.setTop (mkF m 103 #[.val (.int u0), .val (.int u1), .val (.int u2), .val (.int u3), .val (.int u4), .val (.int (4 : Int32)), .val (.ref b177), .val (.ref fr179), .val (.int (1 : Int32))] [(.int (u1 &&& (255 : Int32))), (.int ((u1.toInt8.toInt32) &&& (255 : Int32)))])) t := by
      intro t k
      show Steps p.tables e below (T208.setTop (mkF m 103 #[.val (.int u0), .val (.int u1), .val (.int u2), .val (.int u3), .val (.int u4), .val (.int (4 : Int32)), .val (.ref b177), .val (.ref fr179), .val (.int (1 : Int32))] [(.int (u1 &&& (255 : Int32))), (.int ((u1.toInt8.toInt32) &&& (255 : Int32)))])) t
      refine XS.icmpNo X208.here hx rfl (hb hby at_103) rfl (teq (own_b _)).2 ?_
      exact k
    refine OFin.go S210 ?_
    have S211 : ∀ t, Steps p.tables e below (T208.setTop (mkF m 116 #[.val (.int u0), .val (.int u1), .val (.int u2), .val (.int u3), .val (.int u4), .val (.int (4 : Int32)), .val (.ref b177), .val (.ref fr179), .val (.int (1 : Int32))] [(.int (2 : Int32)), (.int (4 : Int32))])) t → Steps p.tables e below (T208.setTop (mkF m 106 #[.val (.int u0), .val (.int u1), .val (.int u2), .val (.int u3), .val (.int u4), .val (.int (4 : Int32)), .val (.ref b177), .val (.ref fr179), .val (.int (1 : Int32))] [])) t := by
      intro t k
      show Steps p.tables e below (T208.setTop (mkF m 106 #[.val (.int u0), .val (.int u1), .val (.int u2), .val (.int u3), .val (.int u4), .val (.int (4 : Int32)), .val (.ref b177), .val (.ref fr179), .val (.int (1 : Int32))] [])) t
      refine XS.iconst X208.here hx rfl (hb hby at_106) ?_
      show Steps p.tables e below (T208.setTop (mkF m 107 #[.val (.int u0), .val (.int u1), .val (.int u2), .val (.int u3), .val (.int u4), .val (.int (4 : Int32)), .val (.ref b177), .val (.ref fr179), .val (.int (1 : Int32))] [(.int (1 : Int32))])) t
      refine XS.goto X208.here hx rfl (pc0 := 107) (pc' := 111) rfl (hb hby at_107) (by decide) (by decide) ?_
      show Steps p.tables e below (T208.setTop (mkF m 111 #[.val (.int u0), .val (.int u1), .val (.int u2), .val (.int u3), .val (.int u4), .val (.int (4 : Int32)), .val (.ref b177), .val (.ref fr179), .val (.int (1 : Int32))] [(.int (1 : Int32))])) t
      refine XS.istore X208.here hx rfl (hb hby at_111) rfl (l' := #[.val (.int u0), .val (.int u1), .val (.int u2), .val (.int u3), .val (.int u4), .val (.int (4 : Int32)), .val (.ref b177), .val (.ref fr179), .val (.int (1 : Int32))]) rfl ?_
      show Steps p.tables e below (T208.setTop (mkF m 113 #[.val (.int u0), .val (.int u1), .val (.int u2), .val (.int u3), .val (.int u4), .val (.int (4 : Int32)), .val (.ref b177), .val (.ref fr179), .val (.int (1 : Int32))] [])) t
      refine XS.iload X208.here hx rfl (hb hby at_113) rfl ?_
      show Steps p.tables e below (T208.setTop (mkF m 115 #[.val (.int u0), .val (.int u1), .val (.int u2), .val (.int u3), .val (.int u4), .val (.int (4 : Int32)), .val (.ref b177), .val (.ref fr179), .val (.int (1 : Int32))] [(.int (4 : Int32))])) t
      refine XS.iconst X208.here hx rfl (hb hby at_115) ?_
      exact k
    refine OFin.go S211 ?_
    have S212 : ∀ t, Steps p.tables e below (T208.setTop (mkF m 119 #[.val (.int u0), .val (.int u1), .val (.int u2), .val (.int u3), .val (.int u4), .val (.int (4 : Int32)), .val (.ref b177), .val (.ref fr179), .val (.int (1 : Int32))] [])) t → Steps p.tables e below (T208.setTop (mkF m 116 #[.val (.int u0), .val (.int u1), .val (.int u2), .val (.int u3), .val (.int u4), .val (.int (4 : Int32)), .val (.ref b177), .val (.ref fr179), .val (.int (1 : Int32))] [(.int (2 : Int32)), (.int (4 : Int32))])) t := by
      intro t k
      show Steps p.tables e below (T208.setTop (mkF m 116 #[.val (.int u0), .val (.int u1), .val (.int u2), .val (.int u3), .val (.int u4), .val (.int (4 : Int32)), .val (.ref b177), .val (.ref fr179), .val (.int (1 : Int32))] [(.int (2 : Int32)), (.int (4 : Int32))])) t
      refine XS.icmpNo X208.here hx rfl (hb hby at_116) rfl (flt (by decide)).1 ?_
      exact k
    refine OFin.go S212 ?_
    have S213 : ∀ t, Steps p.tables e below (T208.setTop (mkF m 121 #[.val (.int u0), .val (.int u1), .val (.int u2), .val (.int u3), .val (.int u4), .val (.int (4 : Int32)), .val (.ref b177), .val (.ref fr179), .val (.int (1 : Int32))] [(.int (1 : Int32))])) t → Steps p.tables e below (T208.setTop (mkF m 119 #[.val (.int u0), .val (.int u1), .val (.int u2), .val (.int u3), .val (.int u4), .val (.int (4 : Int32)), .val (.ref b177), .val (.ref fr179), .val (.int (1 : Int32))] [])) t := by
      intro t k
      show Steps p.tables e below (T208.setTop (mkF m 119 #[.val (.int u0), .val (.int u1), .val (.int u2), .val (.int u3), .val (.int u4), .val (.int (4 : Int32)), .val (.ref b177), .val (.ref fr179), .val (.int (1 : Int32))] [])) t
      refine XS.iload X208.here hx rfl (hb hby at_119) rfl ?_
      exact k
    refine OFin.go S213 ?_
    have S214 : ∀ t, Steps p.tables e below (T208.setTop (mkF m 124 #[.val (.int u0), .val (.int u1), .val (.int u2), .val (.int u3), .val (.int u4), .val (.int (4 : Int32)), .val (.ref b177), .val (.ref fr179), .val (.int (1 : Int32))] [])) t → Steps p.tables e below (T208.setTop (mkF m 121 #[.val (.int u0), .val (.int u1), .val (.int u2), .val (.int u3), .val (.int u4), .val (.int (4 : Int32)), .val (.ref b177), .val (.ref fr179), .val (.int (1 : Int32))] [(.int (1 : Int32))])) t := by
      intro t k
      show Steps p.tables e below (T208.setTop (mkF m 121 #[.val (.int u0), .val (.int u1), .val (.int u2), .val (.int u3), .val (.int u4), .val (.int (4 : Int32)), .val (.ref b177), .val (.ref fr179), .val (.int (1 : Int32))] [(.int (1 : Int32))])) t
      refine XS.ifNo X208.here hx rfl (hb hby at_121) rfl ((if0 _ _).trans (feq (by decide)).1) ?_
      exact k
    refine OFin.go S214 ?_
    have S215 : ∀ t, Steps p.tables e below (T208.setTop (mkF m 127 #[.val (.int u0), .val (.int u1), .val (.int u2), .val (.int u3), .val (.int u4), .val (.int (4 : Int32)), .val (.ref b177), .val (.ref fr179), .val (.int (1 : Int32))] [(.int (1 : Int32)), (.ref fr179)])) t → Steps p.tables e below (T208.setTop (mkF m 124 #[.val (.int u0), .val (.int u1), .val (.int u2), .val (.int u3), .val (.int u4), .val (.int (4 : Int32)), .val (.ref b177), .val (.ref fr179), .val (.int (1 : Int32))] [])) t := by
      intro t k
      show Steps p.tables e below (T208.setTop (mkF m 124 #[.val (.int u0), .val (.int u1), .val (.int u2), .val (.int u3), .val (.int u4), .val (.int (4 : Int32)), .val (.ref b177), .val (.ref fr179), .val (.int (1 : Int32))] [])) t
      refine XS.aload X208.here hx rfl (hb hby at_124) rfl rfl ?_
      show Steps p.tables e below (T208.setTop (mkF m 126 #[.val (.int u0), .val (.int u1), .val (.int u2), .val (.int u3), .val (.int u4), .val (.int (4 : Int32)), .val (.ref b177), .val (.ref fr179), .val (.int (1 : Int32))] [(.ref fr179)])) t
      refine XS.iconst X208.here hx rfl (hb hby at_126) ?_
      exact k
    refine OFin.go S215 ?_
    obtain ⟨_, T216, Lc216, X216, hQ216, st216⟩ := virtQ X208 hx hZ (y := (⟨"com/example/cardbench/cardbench/Frame", "get", "(I)I"⟩ : MethodName)) hown (hw _ (List.mem_of_getElem? (i := 46) rfl)) (hw _ (List.mem_of_getElem? (i := 48) rfl)) (hw _ (List.mem_of_getElem? (i := 8) rfl)) (hw _ (List.mem_of_getElem? (i := 50) rfl)) (hw _ (List.mem_of_getElem? (i := 47) rfl)) (hw _ (List.mem_of_getElem? (i := 49) rfl)) (by decide) F191 (argsL := [(.int (1 : Int32))]) (rest := []) (rm8 l Z a0 hw [] fr179 (1 : Int32) b179 4 (bf u1 u2 u3 u4) (u2.toInt8.toInt32) h186 n0 Z186 F189 F190 (by decide) (by decide) rfl) (W := 0) (by decide) (by decide) e208 (g := (mkF m 127 #[.val (.int u0), .val (.int u1), .val (.int u2), .val (.int u3), .val (.int u4), .val (.int (4 : Int32)), .val (.ref b177), .val (.ref fr179), .val (.int (1 : Int32))] [(.int (1 : Int32)), (.ref fr179)])) rfl (by rw [hml]; rfl) (lenOf pd_4 rfl) rfl (by show 2 * 0 + _ ≤ _; exact Nat.le_of_eq rfl) (hb hby at_127) (Nat.le_of_ble_eq_true rfl) (Nat.le_of_ble_eq_true rfl)
    obtain ⟨rfl, N216q, e216⟩ := hQ216
    have N216 := Fr.app N208 N216q
    refine OFin.go st216 ?_
    show OFin p e below _ (T216.setTop (mkF m 130 #[.val (.int u0), .val (.int u1), .val (.int u2), .val (.int u3), .val (.int u4), .val (.int (4 : Int32)), .val (.ref b177), .val (.ref fr179), .val (.int (1 : Int32))] [(.int ((u2.toInt8.toInt32) &&& (255 : Int32)))]))
    have S217 : ∀ t, Steps p.tables e below (T216.setTop (mkF m 135 #[.val (.int u0), .val (.int u1), .val (.int u2), .val (.int u3), .val (.int u4), .val (.int (4 : Int32)), .val (.ref b177), .val (.ref fr179), .val (.int (1 : Int32))] [(.int (u2 &&& (255 : Int32))), (.int ((u2.toInt8.toInt32) &&& (255 : Int32)))])) t → Steps p.tables e below (T216.setTop (mkF m 130 #[.val (.int u0), .val (.int u1), .val (.int u2), .val (.int u3), .val (.int u4), .val (.int (4 : Int32)), .val (.ref b177), .val (.ref fr179), .val (.int (1 : Int32))] [(.int ((u2.toInt8.toInt32) &&& (255 : Int32)))])) t := by
      intro t k
      show Steps p.tables e below (T216.setTop (mkF m 130 #[.val (.int u0), .val (.int u1), .val (.int u2), .val (.int u3), .val (.int u4), .val (.int (4 : Int32)), .val (.ref b177), .val (.ref fr179), .val (.int (1 : Int32))] [(.int ((u2.toInt8.toInt32) &&& (255 : Int32)))])) t
      refine XS.iloadN X216.here hx rfl (hb hby at_130) rfl ?_
      show Steps p.tables e below (T216.setTop (mkF m 131 #[.val (.int u0), .val (.int u1), .val (.int u2), .val (.int u3), .val (.int u4), .val (.int (4 : Int32)), .val (.ref b177), .val (.ref fr179), .val (.int (1 : Int32))] [(.int u2), (.int ((u2.toInt8.toInt32) &&& (255 : Int32)))])) t
      refine XS.sipush X216.here hx rfl (hb hby at_131) ?_
      show Steps p.tables e below (T216.setTop (mkF m 134 #[.val (.int u0), .val (.int u1), .val (.int u2), .val (.int u3), .val (.int u4), .val (.int (4 : Int32)), .val (.ref b177), .val (.ref fr179), .val (.int (1 : Int32))] [(.int (255 : Int32)), (.int u2), (.int ((u2.toInt8.toInt32) &&& (255 : Int32)))])) t
      refine XS.iand X216.here hx rfl (hb hby at_134) rfl ?_
      exact k
    refine OFin.go S217 ?_
    have S218 : ∀ t, Steps p.tables e below (T216.setTop (mkF m 138 #[.val (.int u0), .val (.int u1), .val (.int u2), .val (.int u3), .val (.int u4), .val (.int (4 : Int32)), .val (.ref b177), .val (.ref fr179), .val (.int (1 : Int32))] [])) t → Steps p.tables e below (T216.setTop (mkF m 135 #[.val (.int u0), .val (.int u1), .val (.int u2), .val (.int u3), .val (.int u4), .val (.int (4 : Int32)), .val (.ref b177), .val (.ref fr179), .val (.int (1 : Int32))] [(.int (u2 &&& (255 : Int32))), (.int ((u2.toInt8.toInt32) &&& (255 : Int32)))])) t := by
      intro t k
      show Steps p.tables e below (T216.setTop (mkF m 135 #[.val (.int u0), .val (.int u1), .val (.int u2), .val (.int u3), .val (.int u4), .val (.int (4 : Int32)), .val (.ref b177), .val (.ref fr179), .val (.int (1 : Int32))] [(.int (u2 &&& (255 : Int32))), (.int ((u2.toInt8.toInt32) &&& (255 : Int32)))])) t
      refine XS.icmpNo X216.here hx rfl (hb hby at_135) rfl (teq (own_b _)).2 ?_
      exact k
    refine OFin.go S218 ?_
    have S219 : ∀ t, Steps p.tables e below (T216.setTop (mkF m 148 #[.val (.int u0), .val (.int u1), .val (.int u2), .val (.int u3), .val (.int u4), .val (.int (4 : Int32)), .val (.ref b177), .val (.ref fr179), .val (.int (1 : Int32))] [(.int (3 : Int32)), (.int (4 : Int32))])) t → Steps p.tables e below (T216.setTop (mkF m 138 #[.val (.int u0), .val (.int u1), .val (.int u2), .val (.int u3), .val (.int u4), .val (.int (4 : Int32)), .val (.ref b177), .val (.ref fr179), .val (.int (1 : Int32))] [])) t := by
      intro t k
      show Steps p.tables e below (T216.setTop (mkF m 138 #[.val (.int u0), .val (.int u1), .val (.int u2), .val (.int u3), .val (.int u4), .val (.int (4 : Int32)), .val (.ref b177), .val (.ref fr179), .val (.int (1 : Int32))] [])) t
      refine XS.iconst X216.here hx rfl (hb hby at_138) ?_
      show Steps p.tables e below (T216.setTop (mkF m 139 #[.val (.int u0), .val (.int u1), .val (.int u2), .val (.int u3), .val (.int u4), .val (.int (4 : Int32)), .val (.ref b177), .val (.ref fr179), .val (.int (1 : Int32))] [(.int (1 : Int32))])) t
      refine XS.goto X216.here hx rfl (pc0 := 139) (pc' := 143) rfl (hb hby at_139) (by decide) (by decide) ?_
      show Steps p.tables e below (T216.setTop (mkF m 143 #[.val (.int u0), .val (.int u1), .val (.int u2), .val (.int u3), .val (.int u4), .val (.int (4 : Int32)), .val (.ref b177), .val (.ref fr179), .val (.int (1 : Int32))] [(.int (1 : Int32))])) t
      refine XS.istore X216.here hx rfl (hb hby at_143) rfl (l' := #[.val (.int u0), .val (.int u1), .val (.int u2), .val (.int u3), .val (.int u4), .val (.int (4 : Int32)), .val (.ref b177), .val (.ref fr179), .val (.int (1 : Int32))]) rfl ?_
      show Steps p.tables e below (T216.setTop (mkF m 145 #[.val (.int u0), .val (.int u1), .val (.int u2), .val (.int u3), .val (.int u4), .val (.int (4 : Int32)), .val (.ref b177), .val (.ref fr179), .val (.int (1 : Int32))] [])) t
      refine XS.iload X216.here hx rfl (hb hby at_145) rfl ?_
      show Steps p.tables e below (T216.setTop (mkF m 147 #[.val (.int u0), .val (.int u1), .val (.int u2), .val (.int u3), .val (.int u4), .val (.int (4 : Int32)), .val (.ref b177), .val (.ref fr179), .val (.int (1 : Int32))] [(.int (4 : Int32))])) t
      refine XS.iconst X216.here hx rfl (hb hby at_147) ?_
      exact k
    refine OFin.go S219 ?_
    have S220 : ∀ t, Steps p.tables e below (T216.setTop (mkF m 151 #[.val (.int u0), .val (.int u1), .val (.int u2), .val (.int u3), .val (.int u4), .val (.int (4 : Int32)), .val (.ref b177), .val (.ref fr179), .val (.int (1 : Int32))] [])) t → Steps p.tables e below (T216.setTop (mkF m 148 #[.val (.int u0), .val (.int u1), .val (.int u2), .val (.int u3), .val (.int u4), .val (.int (4 : Int32)), .val (.ref b177), .val (.ref fr179), .val (.int (1 : Int32))] [(.int (3 : Int32)), (.int (4 : Int32))])) t := by
      intro t k
      show Steps p.tables e below (T216.setTop (mkF m 148 #[.val (.int u0), .val (.int u1), .val (.int u2), .val (.int u3), .val (.int u4), .val (.int (4 : Int32)), .val (.ref b177), .val (.ref fr179), .val (.int (1 : Int32))] [(.int (3 : Int32)), (.int (4 : Int32))])) t
      refine XS.icmpNo X216.here hx rfl (hb hby at_148) rfl (flt (by decide)).1 ?_
      exact k
    refine OFin.go S220 ?_
    have S221 : ∀ t, Steps p.tables e below (T216.setTop (mkF m 153 #[.val (.int u0), .val (.int u1), .val (.int u2), .val (.int u3), .val (.int u4), .val (.int (4 : Int32)), .val (.ref b177), .val (.ref fr179), .val (.int (1 : Int32))] [(.int (1 : Int32))])) t → Steps p.tables e below (T216.setTop (mkF m 151 #[.val (.int u0), .val (.int u1), .val (.int u2), .val (.int u3), .val (.int u4), .val (.int (4 : Int32)), .val (.ref b177), .val (.ref fr179), .val (.int (1 : Int32))] [])) t := by
      intro t k
      show Steps p.tables e below (T216.setTop (mkF m 151 #[.val (.int u0), .val (.int u1), .val (.int u2), .val (.int u3), .val (.int u4), .val (.int (4 : Int32)), .val (.ref b177), .val (.ref fr179), .val (.int (1 : Int32))] [])) t
      refine XS.iload X216.here hx rfl (hb hby at_151) rfl ?_
      exact k
    refine OFin.go S221 ?_
    have S222 : ∀ t, Steps p.tables e below (T216.setTop (mkF m 156 #[.val (.int u0), .val (.int u1), .val (.int u2), .val (.int u3), .val (.int u4), .val (.int (4 : Int32)), .val (.ref b177), .val (.ref fr179), .val (.int (1 : Int32))] [])) t → Steps p.tables e below (T216.setTop (mkF m 153 #[.val (.int u0), .val (.int u1), .val (.int u2), .val (.int u3), .val (.int u4), .val (.int (4 : Int32)), .val (.ref b177), .val (.ref fr179), .val (.int (1 : Int32))] [(.int (1 : Int32))])) t := by
      intro t k
      show Steps p.tables e below (T216.setTop (mkF m 153 #[.val (.int u0), .val (.int u1), .val (.int u2), .val (.int u3), .val (.int u4), .val (.int (4 : Int32)), .val (.ref b177), .val (.ref fr179), .val (.int (1 : Int32))] [(.int (1 : Int32))])) t
      refine XS.ifNo X216.here hx rfl (hb hby at_153) rfl ((if0 _ _).trans (feq (by decide)).1) ?_
      exact k
    refine OFin.go S222 ?_
    have S223 : ∀ t, Steps p.tables e below (T216.setTop (mkF m 159 #[.val (.int u0), .val (.int u1), .val (.int u2), .val (.int u3), .val (.int u4), .val (.int (4 : Int32)), .val (.ref b177), .val (.ref fr179), .val (.int (1 : Int32))] [(.int (2 : Int32)), (.ref fr179)])) t → Steps p.tables e below (T216.setTop (mkF m 156 #[.val (.int u0), .val (.int u1), .val (.int u2), .val (.int u3), .val (.int u4), .val (.int (4 : Int32)), .val (.ref b177), .val (.ref fr179), .val (.int (1 : Int32))] [])) t := by
      intro t k
      show Steps p.tables e below (T216.setTop (mkF m 156 #[.val (.int u0), .val (.int u1), .val (.int u2), .val (.int u3), .val (.int u4), .val (.int (4 : Int32)), .val (.ref b177), .val (.ref fr179), .val (.int (1 : Int32))] [])) t
      refine XS.aload X216.here hx rfl (hb hby at_156) rfl rfl ?_
      show Steps p.tables e below (T216.setTop (mkF m 158 #[.val (.int u0), .val (.int u1), .val (.int u2), .val (.int u3), .val (.int u4), .val (.int (4 : Int32)), .val (.ref b177), .val (.ref fr179), .val (.int (1 : Int32))] [(.ref fr179)])) t
      refine XS.iconst X216.here hx rfl (hb hby at_158) ?_
      exact k
    refine OFin.go S223 ?_
    obtain ⟨_, T224, Lc224, X224, hQ224, st224⟩ := virtQ X216 hx hZ (y := (⟨"com/example/cardbench/cardbench/Frame", "get", "(I)I"⟩ : MethodName)) hown (hw _ (List.mem_of_getElem? (i := 46) rfl)) (hw _ (List.mem_of_getElem? (i := 48) rfl)) (hw _ (List.mem_of_getElem? (i := 8) rfl)) (hw _ (List.mem_of_getElem? (i := 50) rfl)) (hw _ (List.mem_of_getElem? (i := 47) rfl)) (hw _ (List.mem_of_getElem? (i := 49) rfl)) (by decide) F191 (argsL := [(.int (2 : Int32))]) (rest := []) (rm8 l Z a0 hw [] fr179 (2 : Int32) b179 4 (bf u1 u2 u3 u4) (u3.toInt8.toInt32) h186 n0 Z186 F189 F190 (by decide) (by decide) rfl) (W := 0) (by decide) (by decide) e216 (g := (mkF m 159 #[.val (.int u0), .val (.int u1), .val (.int u2), .val (.int u3), .val (.int u4), .val (.int (4 : Int32)), .val (.ref b177), .val (.ref fr179), .val (.int (1 : Int32))] [(.int (2 : Int32)), (.ref fr179)])) rfl (by rw [hml]; rfl) (lenOf pd_4 rfl) rfl (by show 2 * 0 + _ ≤ _; exact Nat.le_of_eq rfl) (hb hby at_159) (Nat.le_of_ble_eq_true rfl) (Nat.le_of_ble_eq_true rfl)
    obtain ⟨rfl, N224q, e224⟩ := hQ224
    have N224 := Fr.app N216 N224q
    refine OFin.go st224 ?_
    show OFin p e below _ (T224.setTop (mkF m 162 #[.val (.int u0), .val (.int u1), .val (.int u2), .val (.int u3), .val (.int u4), .val (.int (4 : Int32)), .val (.ref b177), .val (.ref fr179), .val (.int (1 : Int32))] [(.int ((u3.toInt8.toInt32) &&& (255 : Int32)))]))
    have S225 : ∀ t, Steps p.tables e below (T224.setTop (mkF m 167 #[.val (.int u0), .val (.int u1), .val (.int u2), .val (.int u3), .val (.int u4), .val (.int (4 : Int32)), .val (.ref b177), .val (.ref fr179), .val (.int (1 : Int32))] [(.int (u3 &&& (255 : Int32))), (.int ((u3.toInt8.toInt32) &&& (255 : Int32)))])) t → Steps p.tables e below (T224.setTop (mkF m 162 #[.val (.int u0), .val (.int u1), .val (.int u2), .val (.int u3), .val (.int u4), .val (.int (4 : Int32)), .val (.ref b177), .val (.ref fr179), .val (.int (1 : Int32))] [(.int ((u3.toInt8.toInt32) &&& (255 : Int32)))])) t := by
      intro t k
      show Steps p.tables e below (T224.setTop (mkF m 162 #[.val (.int u0), .val (.int u1), .val (.int u2), .val (.int u3), .val (.int u4), .val (.int (4 : Int32)), .val (.ref b177), .val (.ref fr179), .val (.int (1 : Int32))] [(.int ((u3.toInt8.toInt32) &&& (255 : Int32)))])) t
      refine XS.iloadN X224.here hx rfl (hb hby at_162) rfl ?_
      show Steps p.tables e below (T224.setTop (mkF m 163 #[.val (.int u0), .val (.int u1), .val (.int u2), .val (.int u3), .val (.int u4), .val (.int (4 : Int32)), .val (.ref b177), .val (.ref fr179), .val (.int (1 : Int32))] [(.int u3), (.int ((u3.toInt8.toInt32) &&& (255 : Int32)))])) t
      refine XS.sipush X224.here hx rfl (hb hby at_163) ?_
      show Steps p.tables e below (T224.setTop (mkF m 166 #[.val (.int u0), .val (.int u1), .val (.int u2), .val (.int u3), .val (.int u4), .val (.int (4 : Int32)), .val (.ref b177), .val (.ref fr179), .val (.int (1 : Int32))] [(.int (255 : Int32)), (.int u3), (.int ((u3.toInt8.toInt32) &&& (255 : Int32)))])) t
      refine XS.iand X224.here hx rfl (hb hby at_166) rfl ?_
      exact k
    refine OFin.go S225 ?_
    have S226 : ∀ t, Steps p.tables e below (T224.setTop (mkF m 170 #[.val (.int u0), .val (.int u1), .val (.int u2), .val (.int u3), .val (.int u4), .val (.int (4 : Int32)), .val (.ref b177), .val (.ref fr179), .val (.int (1 : Int32))] [])) t → Steps p.tables e below (T224.setTop (mkF m 167 #[.val (.int u0), .val (.int u1), .val (.int u2), .val (.int u3), .val (.int u4), .val (.int (4 : Int32)), .val (.ref b177), .val (.ref fr179), .val (.int (1 : Int32))] [(.int (u3 &&& (255 : Int32))), (.int ((u3.toInt8.toInt32) &&& (255 : Int32)))])) t := by
      intro t k
      show Steps p.tables e below (T224.setTop (mkF m 167 #[.val (.int u0), .val (.int u1), .val (.int u2), .val (.int u3), .val (.int u4), .val (.int (4 : Int32)), .val (.ref b177), .val (.ref fr179), .val (.int (1 : Int32))] [(.int (u3 &&& (255 : Int32))), (.int ((u3.toInt8.toInt32) &&& (255 : Int32)))])) t
      refine XS.icmpNo X224.here hx rfl (hb hby at_167) rfl (teq (own_b _)).2 ?_
      exact k
    refine OFin.go S226 ?_
    have S227 : ∀ t, Steps p.tables e below (T224.setTop (mkF m 180 #[.val (.int u0), .val (.int u1), .val (.int u2), .val (.int u3), .val (.int u4), .val (.int (4 : Int32)), .val (.ref b177), .val (.ref fr179), .val (.int (1 : Int32))] [(.int (4 : Int32)), (.int (4 : Int32))])) t → Steps p.tables e below (T224.setTop (mkF m 170 #[.val (.int u0), .val (.int u1), .val (.int u2), .val (.int u3), .val (.int u4), .val (.int (4 : Int32)), .val (.ref b177), .val (.ref fr179), .val (.int (1 : Int32))] [])) t := by
      intro t k
      show Steps p.tables e below (T224.setTop (mkF m 170 #[.val (.int u0), .val (.int u1), .val (.int u2), .val (.int u3), .val (.int u4), .val (.int (4 : Int32)), .val (.ref b177), .val (.ref fr179), .val (.int (1 : Int32))] [])) t
      refine XS.iconst X224.here hx rfl (hb hby at_170) ?_
      show Steps p.tables e below (T224.setTop (mkF m 171 #[.val (.int u0), .val (.int u1), .val (.int u2), .val (.int u3), .val (.int u4), .val (.int (4 : Int32)), .val (.ref b177), .val (.ref fr179), .val (.int (1 : Int32))] [(.int (1 : Int32))])) t
      refine XS.goto X224.here hx rfl (pc0 := 171) (pc' := 175) rfl (hb hby at_171) (by decide) (by decide) ?_
      show Steps p.tables e below (T224.setTop (mkF m 175 #[.val (.int u0), .val (.int u1), .val (.int u2), .val (.int u3), .val (.int u4), .val (.int (4 : Int32)), .val (.ref b177), .val (.ref fr179), .val (.int (1 : Int32))] [(.int (1 : Int32))])) t
      refine XS.istore X224.here hx rfl (hb hby at_175) rfl (l' := #[.val (.int u0), .val (.int u1), .val (.int u2), .val (.int u3), .val (.int u4), .val (.int (4 : Int32)), .val (.ref b177), .val (.ref fr179), .val (.int (1 : Int32))]) rfl ?_
      show Steps p.tables e below (T224.setTop (mkF m 177 #[.val (.int u0), .val (.int u1), .val (.int u2), .val (.int u3), .val (.int u4), .val (.int (4 : Int32)), .val (.ref b177), .val (.ref fr179), .val (.int (1 : Int32))] [])) t
      refine XS.iload X224.here hx rfl (hb hby at_177) rfl ?_
      show Steps p.tables e below (T224.setTop (mkF m 179 #[.val (.int u0), .val (.int u1), .val (.int u2), .val (.int u3), .val (.int u4), .val (.int (4 : Int32)), .val (.ref b177), .val (.ref fr179), .val (.int (1 : Int32))] [(.int (4 : Int32))])) t
      refine XS.iconst X224.here hx rfl (hb hby at_179) ?_
      exact k
    refine OFin.go S227 ?_
    have S228 : ∀ t, Steps p.tables e below (T224.setTop (mkF m 183 #[.val (.int u0), .val (.int u1), .val (.int u2), .val (.int u3), .val (.int u4), .val (.int (4 : Int32)), .val (.ref b177), .val (.ref fr179), .val (.int (1 : Int32))] [])) t → Steps p.tables e below (T224.setTop (mkF m 180 #[.val (.int u0), .val (.int u1), .val (.int u2), .val (.int u3), .val (.int u4), .val (.int (4 : Int32)), .val (.ref b177), .val (.ref fr179), .val (.int (1 : Int32))] [(.int (4 : Int32)), (.int (4 : Int32))])) t := by
      intro t k
      show Steps p.tables e below (T224.setTop (mkF m 180 #[.val (.int u0), .val (.int u1), .val (.int u2), .val (.int u3), .val (.int u4), .val (.int (4 : Int32)), .val (.ref b177), .val (.ref fr179), .val (.int (1 : Int32))] [(.int (4 : Int32)), (.int (4 : Int32))])) t
      refine XS.icmpNo X224.here hx rfl (hb hby at_180) rfl (flt (by decide)).1 ?_
      exact k
    refine OFin.go S228 ?_
    have S229 : ∀ t, Steps p.tables e below (T224.setTop (mkF m 185 #[.val (.int u0), .val (.int u1), .val (.int u2), .val (.int u3), .val (.int u4), .val (.int (4 : Int32)), .val (.ref b177), .val (.ref fr179), .val (.int (1 : Int32))] [(.int (1 : Int32))])) t → Steps p.tables e below (T224.setTop (mkF m 183 #[.val (.int u0), .val (.int u1), .val (.int u2), .val (.int u3), .val (.int u4), .val (.int (4 : Int32)), .val (.ref b177), .val (.ref fr179), .val (.int (1 : Int32))] [])) t := by
      intro t k
      show Steps p.tables e below (T224.setTop (mkF m 183 #[.val (.int u0), .val (.int u1), .val (.int u2), .val (.int u3), .val (.int u4), .val (.int (4 : Int32)), .val (.ref b177), .val (.ref fr179), .val (.int (1 : Int32))] [])) t
      refine XS.iload X224.here hx rfl (hb hby at_183) rfl ?_
      exact k
    refine OFin.go S229 ?_
    have S230 : ∀ t, Steps p.tables e below (T224.setTop (mkF m 188 #[.val (.int u0), .val (.int u1), .val (.int u2), .val (.int u3), .val (.int u4), .val (.int (4 : Int32)), .val (.ref b177), .val (.ref fr179), .val (.int (1 : Int32))] [])) t → Steps p.tables e below (T224.setTop (mkF m 185 #[.val (.int u0), .val (.int u1), .val (.int u2), .val (.int u3), .val (.int u4), .val (.int (4 : Int32)), .val (.ref b177), .val (.ref fr179), .val (.int (1 : Int32))] [(.int (1 : Int32))])) t := by
      intro t k
      show Steps p.tables e below (T224.setTop (mkF m 185 #[.val (.int u0), .val (.int u1), .val (.int u2), .val (.int u3), .val (.int u4), .val (.int (4 : Int32)), .val (.ref b177), .val (.ref fr179), .val (.int (1 : Int32))] [(.int (1 : Int32))])) t
      refine XS.ifNo X224.here hx rfl (hb hby at_185) rfl ((if0 _ _).trans (feq (by decide)).1) ?_
      exact k
    refine OFin.go S230 ?_
    have S231 : ∀ t, Steps p.tables e below (T224.setTop (mkF m 191 #[.val (.int u0), .val (.int u1), .val (.int u2), .val (.int u3), .val (.int u4), .val (.int (4 : Int32)), .val (.ref b177), .val (.ref fr179), .val (.int (1 : Int32))] [(.int (3 : Int32)), (.ref fr179)])) t → Steps p.tables e below (T224.setTop (mkF m 188 #[.val (.int u0), .val (.int u1), .val (.int u2), .val (.int u3), .val (.int u4), .val (.int (4 : Int32)), .val (.ref b177), .val (.ref fr179), .val (.int (1 : Int32))] [])) t := by
      intro t k
      show Steps p.tables e below (T224.setTop (mkF m 188 #[.val (.int u0), .val (.int u1), .val (.int u2), .val (.int u3), .val (.int u4), .val (.int (4 : Int32)), .val (.ref b177), .val (.ref fr179), .val (.int (1 : Int32))] [])) t
      refine XS.aload X224.here hx rfl (hb hby at_188) rfl rfl ?_
      show Steps p.tables e below (T224.setTop (mkF m 190 #[.val (.int u0), .val (.int u1), .val (.int u2), .val (.int u3), .val (.int u4), .val (.int (4 : Int32)), .val (.ref b177), .val (.ref fr179), .val (.int (1 : Int32))] [(.ref fr179)])) t
      refine XS.iconst X224.here hx rfl (hb hby at_190) ?_
      exact k
    refine OFin.go S231 ?_
    obtain ⟨_, T232, Lc232, X232, hQ232, st232⟩ := virtQ X224 hx hZ (y := (⟨"com/example/cardbench/cardbench/Frame", "get", "(I)I"⟩ : MethodName)) hown (hw _ (List.mem_of_getElem? (i := 46) rfl)) (hw _ (List.mem_of_getElem? (i := 48) rfl)) (hw _ (List.mem_of_getElem? (i := 8) rfl)) (hw _ (List.mem_of_getElem? (i := 50) rfl)) (hw _ (List.mem_of_getElem? (i := 47) rfl)) (hw _ (List.mem_of_getElem? (i := 49) rfl)) (by decide) F191 (argsL := [(.int (3 : Int32))]) (rest := []) (rm8 l Z a0 hw [] fr179 (3 : Int32) b179 4 (bf u1 u2 u3 u4) (u4.toInt8.toInt32) h186 n0 Z186 F189 F190 (by decide) (by decide) rfl) (W := 0) (by decide) (by decide) e224 (g := (mkF m 191 #[.val (.int u0), .val (.int u1), .val (.int u2), .val (.int u3), .val (.int u4), .val (.int (4 : Int32)), .val (.ref b177), .val (.ref fr179), .val (.int (1 : Int32))] [(.int (3 : Int32)), (.ref fr179)])) rfl (by rw [hml]; rfl) (lenOf pd_4 rfl) rfl (by show 2 * 0 + _ ≤ _; exact Nat.le_of_eq rfl) (hb hby at_191) (Nat.le_of_ble_eq_true rfl) (Nat.le_of_ble_eq_true rfl)
    obtain ⟨rfl, N232q, e232⟩ := hQ232
    have N232 := Fr.app N224 N232q
    refine OFin.go st232 ?_
    show OFin p e below _ (T232.setTop (mkF m 194 #[.val (.int u0), .val (.int u1), .val (.int u2), .val (.int u3), .val (.int u4), .val (.int (4 : Int32)), .val (.ref b177), .val (.ref fr179), .val (.int (1 : Int32))] [(.int ((u4.toInt8.toInt32) &&& (255 : Int32)))]))
    have S233 : ∀ t, Steps p.tables e below (T232.setTop (mkF m 200 #[.val (.int u0), .val (.int u1), .val (.int u2), .val (.int u3), .val (.int u4), .val (.int (4 : Int32)), .val (.ref b177), .val (.ref fr179), .val (.int (1 : Int32))] [(.int (u4 &&& (255 : Int32))), (.int ((u4.toInt8.toInt32) &&& (255 : Int32)))])) t → Steps p.tables e below (T232.setTop (mkF m 194 #[.val (.int u0), .val (.int u1), .val (.int u2), .val (.int u3), .val (.int u4), .val (.int (4 : Int32)), .val (.ref b177), .val (.ref fr179), .val (.int (1 : Int32))] [(.int ((u4.toInt8.toInt32) &&& (255 : Int32)))])) t := by
      intro t k
      show Steps p.tables e below (T232.setTop (mkF m 194 #[.val (.int u0), .val (.int u1), .val (.int u2), .val (.int u3), .val (.int u4), .val (.int (4 : Int32)), .val (.ref b177), .val (.ref fr179), .val (.int (1 : Int32))] [(.int ((u4.toInt8.toInt32) &&& (255 : Int32)))])) t
      refine XS.iload X232.here hx rfl (hb hby at_194) rfl ?_
      show Steps p.tables e below (T232.setTop (mkF m 196 #[.val (.int u0), .val (.int u1), .val (.int u2), .val (.int u3), .val (.int u4), .val (.int (4 : Int32)), .val (.ref b177), .val (.ref fr179), .val (.int (1 : Int32))] [(.int u4), (.int ((u4.toInt8.toInt32) &&& (255 : Int32)))])) t
      refine XS.sipush X232.here hx rfl (hb hby at_196) ?_
      show Steps p.tables e below (T232.setTop (mkF m 199 #[.val (.int u0), .val (.int u1), .val (.int u2), .val (.int u3), .val (.int u4), .val (.int (4 : Int32)), .val (.ref b177), .val (.ref fr179), .val (.int (1 : Int32))] [(.int (255 : Int32)), (.int u4), (.int ((u4.toInt8.toInt32) &&& (255 : Int32)))])) t
      refine XS.iand X232.here hx rfl (hb hby at_199) rfl ?_
      exact k
    refine OFin.go S233 ?_
    have S234 : ∀ t, Steps p.tables e below (T232.setTop (mkF m 203 #[.val (.int u0), .val (.int u1), .val (.int u2), .val (.int u3), .val (.int u4), .val (.int (4 : Int32)), .val (.ref b177), .val (.ref fr179), .val (.int (1 : Int32))] [])) t → Steps p.tables e below (T232.setTop (mkF m 200 #[.val (.int u0), .val (.int u1), .val (.int u2), .val (.int u3), .val (.int u4), .val (.int (4 : Int32)), .val (.ref b177), .val (.ref fr179), .val (.int (1 : Int32))] [(.int (u4 &&& (255 : Int32))), (.int ((u4.toInt8.toInt32) &&& (255 : Int32)))])) t := by
      intro t k
      show Steps p.tables e below (T232.setTop (mkF m 200 #[.val (.int u0), .val (.int u1), .val (.int u2), .val (.int u3), .val (.int u4), .val (.int (4 : Int32)), .val (.ref b177), .val (.ref fr179), .val (.int (1 : Int32))] [(.int (u4 &&& (255 : Int32))), (.int ((u4.toInt8.toInt32) &&& (255 : Int32)))])) t
      refine XS.icmpNo X232.here hx rfl (hb hby at_200) rfl (teq (own_b _)).2 ?_
      exact k
    refine OFin.go S234 ?_
    have S235 : ∀ t, Steps p.tables e below (T232.setTop (mkF m 212 #[.val (.int u0), .val (.int u1), .val (.int u2), .val (.int u3), .val (.int u4), .val (.int (4 : Int32)), .val (.ref b177), .val (.ref fr179), .val (.int (1 : Int32))] [(.int (1 : Int32))])) t → Steps p.tables e below (T232.setTop (mkF m 203 #[.val (.int u0), .val (.int u1), .val (.int u2), .val (.int u3), .val (.int u4), .val (.int (4 : Int32)), .val (.ref b177), .val (.ref fr179), .val (.int (1 : Int32))] [])) t := by
      intro t k
      show Steps p.tables e below (T232.setTop (mkF m 203 #[.val (.int u0), .val (.int u1), .val (.int u2), .val (.int u3), .val (.int u4), .val (.int (4 : Int32)), .val (.ref b177), .val (.ref fr179), .val (.int (1 : Int32))] [])) t
      refine XS.iconst X232.here hx rfl (hb hby at_203) ?_
      show Steps p.tables e below (T232.setTop (mkF m 204 #[.val (.int u0), .val (.int u1), .val (.int u2), .val (.int u3), .val (.int u4), .val (.int (4 : Int32)), .val (.ref b177), .val (.ref fr179), .val (.int (1 : Int32))] [(.int (1 : Int32))])) t
      refine XS.goto X232.here hx rfl (pc0 := 204) (pc' := 208) rfl (hb hby at_204) (by decide) (by decide) ?_
      show Steps p.tables e below (T232.setTop (mkF m 208 #[.val (.int u0), .val (.int u1), .val (.int u2), .val (.int u3), .val (.int u4), .val (.int (4 : Int32)), .val (.ref b177), .val (.ref fr179), .val (.int (1 : Int32))] [(.int (1 : Int32))])) t
      refine XS.istore X232.here hx rfl (hb hby at_208) rfl (l' := #[.val (.int u0), .val (.int u1), .val (.int u2), .val (.int u3), .val (.int u4), .val (.int (4 : Int32)), .val (.ref b177), .val (.ref fr179), .val (.int (1 : Int32))]) rfl ?_
      show Steps p.tables e below (T232.setTop (mkF m 210 #[.val (.int u0), .val (.int u1), .val (.int u2), .val (.int u3), .val (.int u4), .val (.int (4 : Int32)), .val (.ref b177), .val (.ref fr179), .val (.int (1 : Int32))] [])) t
      refine XS.iload X232.here hx rfl (hb hby at_210) rfl ?_
      exact k
    refine OFin.go S235 ?_
    exact finZ X232 hx Bd.notSynchronized (t := .boolean) Bd.returns (by simp) (hb hby at_212) rfl (by decide) (by decide) (⟨congrArg (fun z => some (Value.int z)) (rfl : (1 : Int32) = (1 : Int32)), N232⟩)
set_option maxRecDepth 65536 in
set_option maxHeartbeats 40000000 in
theorem comes_1 {Post : Tables → Env → Array Value → State → Outcome → State → Prop} (hpost : ∀ tb e args s v u, (limb_1_1.after args s (.returned v) u = true ∧ limb_1_2.after args s (.returned v) u = true ∧ True) → FrameEnd s (.returned v) u (Jvm.fieldLocs frame_1_writes args s ++ Jvm.arrayLocs frame_1_arrays args s ++ Jvm.staticLocs frame_1_statics s) 16 128 → Post tb e args s (.returned v) u) :
    ArmFor flags0 classFile x code maxLocals ret World_1 tables_1 room_1 Calls_1 rest_1 Pre_1 Post := by
  intro l hfl _ _ p e ha hc hk s m args below hf hA hF happ hP
  obtain ⟨hcalls, hrest, hpre⟩ := hP
  obtain ⟨-, -, -, hnamed, -, -, -, hat⟩ := (Spec.applies_iff hf).mp happ
  obtain ⟨hg, hn⟩ := and_e (Cond.before_iff.mp (show (Jvm.Cond.and given_1 narrow_1).before args s = true from hpre))
  obtain ⟨gg2, gg3⟩ := and_e hg
  obtain ⟨gg4, gg5⟩ := and_e gg3
  obtain ⟨gg6, gg7⟩ := and_e gg5
  obtain ⟨gg8, gg9⟩ := and_e gg7
  obtain ⟨gg10, gg11⟩ := and_e gg9
  obtain ⟨w0, w1, w2, w3, w4, rfl⟩ : ∃ w0 w1 w2 w3 w4 : Value, args = #[w0, w1, w2, w3, w4] := by
    have hs : args.size = 5 := by simpa [Cond.value, given_1] using gg2
    obtain ⟨L⟩ := args
    match L, hs with
    | [w0, w1, w2, w3, w4], _ => exact ⟨w0, w1, w2, w3, w4, rfl⟩
  have hw := fun d (hd : d ∈ tables_1) => atoms_spec (ws := Jvm.Cond.code x code maxLocals ret :: tables_1) hat d (List.mem_cons_of_mem _ hd)
  have hfit : Fit s := fun {y c} hc i hi => by
    obtain ⟨ha, rfl⟩ := Array.getElem?_eq_some_iff.mp hc
    have q := List.all_eq_true.mp ((Array.all_eq_true_iff_forall_mem.mp hF) _ (Array.getElem_mem ha)) i (List.mem_range.mpr hi)
    simpa [Array.getElem?_eq_getElem hi] using q
  obtain ⟨i0, ei0⟩ := is_v gg4
  obtain rfl : w0 = (.int i0) := Option.some.inj ei0
  obtain ⟨i1, ei1⟩ := is_v gg6
  obtain rfl : w1 = (.int i1) := Option.some.inj ei1
  obtain ⟨i2, ei2⟩ := is_v gg8
  obtain rfl : w2 = (.int i2) := Option.some.inj ei2
  obtain ⟨i3, ei3⟩ := is_v gg10
  obtain rfl : w3 = (.int i3) := Option.some.inj ei3
  obtain ⟨i4, ei4⟩ := is_v gg11
  obtain rfl : w4 = (.int i4) := Option.some.inj ei4
  obtain ⟨n, o, h1, h2, h3, _, L, rfl, ⟨rfl, N⟩, hq⟩ := rm0 l s _ hw tables_1 i0 i1 i2 i3 i4 s.heap s.heap.size (Nat.le_refl _)  p e ha hc hk s m _ below hf ((Spec.applies_iff_loose hf).mp happ).1 ⟨rfl, State.Warmed39.refl s, rfl⟩ trivial
  refine ⟨n, _, h1, h2, h3, hpost _ _ _ _ _ _ ⟨Cond.after_iff.mpr rfl, Cond.after_iff.mpr (eq_i res_at (Term.int_eval (1)) rfl), trivial⟩ ⟨hq.1, hq.2.1, (hq.2.2.sift fun y hy => Or.inr (N y hy)).mono (by decide) (by decide)⟩⟩
theorem main_1_1 : Claimed_1_1 := comes_1 fun _ _ _ _ _ _ h hF => ⟨h.1, hF⟩
theorem main_1_2 : Claimed_1_2 := comes_1 fun _ _ _ _ _ _ h hF => ⟨h.2.1, hF⟩
end Jvm.Pilot.@@N@@
namespace Jvm.Pilot.@@N@@
open Jvm Jvm.ClassFile Sem Op Lib Jvm.Free Jvm.Stand Jvm.Pilot.@@N@@.Jvm.D
/-! MADE BY PROGRAM (witnessworld.py) out of the Statement's table words and the real class files: 9 classes; the members and pool entries that the words name. The judged class is class 1, her method 2. -/
namespace start1
open Jvm.ClassFile
def u (s : String) : CpInfo := .utf8 (stringToUtf16 s)
/-- a pool by its gaps: so many unusable entries, then the entry; so many at the end -/
def gap : Nat → List CpInfo → List CpInfo
  | 0, r => r
  | n + 1, r => .unusable :: gap n r
def poolList (es : List (Nat × CpInfo)) (last : Nat) : List CpInfo := es.foldr (fun e r => gap e.1 (e.2 :: r)) (gap last [])
def pool (es : List (Nat × CpInfo)) (last : Nat) : Array CpInfo := ⟨poolList es last⟩
def fileOf (pool : Array CpInfo) (this : Nat) (attrs : Array Attribute := #[]) (ms : Array MethodInfo := #[]) (fl : Nat := 33) (sup : Nat := 0) (ifs : Array Nat := #[]) (fds : Array FieldInfo := #[]) : ClassFile where
  minorVersion := 0
  majorVersion := 65
  constantPool := pool
  accessFlags := fl
  thisClass := this
  superClass := sup
  interfaces := ifs
  fields := fds
  methods := ms
  attributes := attrs
def plain (name : String) (sup : Option ClassId) : Class where
  name := name
  kind := .ordinary
  loader := none
  accessFlags := 33
  super := sup
  interfaces := #[]
  cf := none
  fields := #[]
  methods := #[]
  instanceTypes := #[]
  staticTypes := #[]
  resolved := #[]
  callSites := []
  init := .initialized
  statics := none
  mirror := none

def pool0 : Array CpInfo := pool [(5, u "<init>"), (0, u "()V"), (1, .class_ 10), (1, u "java/lang/Object"), (85, u "clone"), (0, u "()Ljava/lang/Object;")] 26

def k0c0 : Code := { maxStack := 0, maxLocals := 1, code := object_method_1_code, exceptionTable := #[], attributes := #[] }
def k0m0 : Method := { name := "<init>", desc := "()V", sig := { parameters := [], returnType := none }, accessFlags := 1, code := some k0c0 }
def k0m1 : Method := { name := "clone", desc := "()Ljava/lang/Object;", sig := { parameters := [], returnType := some (.object "java/lang/Object") }, accessFlags := 260, code := none }
/-- java/lang/Object -/
def k0 : Class := { plain "java/lang/Object" none with
  accessFlags := 33
  interfaces := #[]
  cf := some (fileOf pool0 8 #[] #[{ accessFlags := 1, nameIndex := 5, descriptorIndex := 6, attributes := #[] }, { accessFlags := 260, nameIndex := 96, descriptorIndex := 97, attributes := #[] }] 33 0 #[] #[])
  fields := #[]
  methods := #[k0m0, k0m1]
  instanceTypes := #[]
  staticTypes := #[]
  resolved := Array.replicate 124 none
  statics := none }

def pool1 : Array CpInfo := pool [(2, .class_ 4), (1, u "java/lang/Object"), (0, u "<init>"), (0, u "()V"), (0, .integer 2147483647), (0, .methodref 9 10), (0, .class_ 11), (0, .nameAndType 12 13), (0, u "com/example/cardbench/cardbench/FrameOfPinLaw"), (0, u "build"), (0, u "(IIIII)[B"), (0, .methodref 15 16), (0, .class_ 17), (0, .nameAndType 18 19), (0, u "com/example/cardbench/cardbench/Frame"), (0, u "of"), (0, u "([B)Lcom/example/cardbench/cardbench/Frame;"), (0, .methodref 15 21), (0, .nameAndType 22 23), (0, u "length"), (0, u "()I"), (0, .methodref 15 25), (0, .nameAndType 26 23), (0, u "bits"), (0, .methodref 15 28), (0, .nameAndType 29 23), (0, u "parityBits"), (0, .methodref 15 31), (0, .nameAndType 32 33), (0, u "get"), (0, u "(I)I"), (3, u "law"), (0, u "(IIIII)Z")] 4

def k1m0 : Method := { name := "<init>", desc := "()V", sig := { parameters := [], returnType := none }, accessFlags := 1, code := none }
def k1c1 : Code := { maxStack := 4, maxLocals := 5, code := method_2_code, exceptionTable := #[], attributes := #[] }
def k1m1 : Method := { name := "build", desc := "(IIIII)[B", sig := { parameters := [.int, .int, .int, .int, .int], returnType := some (.array .byte) }, accessFlags := 10, code := some k1c1 }
def k1c2 : Code := { maxStack := 5, maxLocals := 9, code := code, exceptionTable := #[], attributes := #[] }
def k1m2 : Method := { name := "law", desc := "(IIIII)Z", sig := { parameters := [.int, .int, .int, .int, .int], returnType := some .boolean }, accessFlags := 9, code := some k1c2 }
/-- com/example/cardbench/cardbench/FrameOfPinLaw -/
def k1 : Class := { plain "com/example/cardbench/cardbench/FrameOfPinLaw" (some 0) with
  accessFlags := 49
  interfaces := #[]
  cf := some (fileOf pool1 9 #[] #[{ accessFlags := 1, nameIndex := 5, descriptorIndex := 6, attributes := #[] }, { accessFlags := 10, nameIndex := 12, descriptorIndex := 13, attributes := #[] }, { accessFlags := 9, nameIndex := 37, descriptorIndex := 38, attributes := #[] }] 49 2 #[] #[])
  fields := #[]
  methods := #[k1m0, k1m1, k1m2]
  instanceTypes := #[]
  staticTypes := #[]
  resolved := Array.replicate 43 none
  statics := none }

def pool2 : Array CpInfo := pool [(1, .methodref 2 3), (0, .class_ 4), (0, .nameAndType 5 6), (0, u "java/lang/Object"), (0, u "<init>"), (0, u "()V"), (0, .fieldref 8 9), (0, .class_ 10), (0, .nameAndType 11 12), (0, u "com/example/cardbench/cardbench/Frame"), (0, u "bytes"), (0, u "[B"), (0, .fieldref 8 14), (0, .nameAndType 15 16), (0, u "bits"), (0, u "I"), (0, .methodref 18 19), (0, .class_ 12), (0, .nameAndType 20 21), (0, u "clone"), (0, u "()Ljava/lang/Object;"), (0, .methodref 8 23), (0, .nameAndType 5 24), (0, u "([BI)V"), (25, u "of"), (4, u "(I)I"), (2, u "get"), (2, u "HEX"), (0, u "Ljava/util/HexFormat;"), (24, u "SHORT_FRAME_BITS"), (4, u "([B)Lcom/example/cardbench/cardbench/Frame;"), (6, u "length"), (0, u "()I"), (0, u "parityBits")] 27

def k2c0 : Code := { maxStack := 2, maxLocals := 3, code := prog_18_method_1_code, exceptionTable := #[], attributes := #[] }
def k2m0 : Method := { name := "<init>", desc := "([BI)V", sig := { parameters := [(.array .byte), .int], returnType := none }, accessFlags := 2, code := some k2c0 }
def k2c1 : Code := { maxStack := 5, maxLocals := 1, code := prog_18_method_2_code, exceptionTable := #[], attributes := #[] }
def k2m1 : Method := { name := "of", desc := "([B)Lcom/example/cardbench/cardbench/Frame;", sig := { parameters := [(.array .byte)], returnType := some (.object "com/example/cardbench/cardbench/Frame") }, accessFlags := 137, code := some k2c1 }
def k2c2 : Code := { maxStack := 1, maxLocals := 1, code := prog_18_method_5_code, exceptionTable := #[], attributes := #[] }
def k2m2 : Method := { name := "length", desc := "()I", sig := { parameters := [], returnType := some .int }, accessFlags := 1, code := some k2c2 }
def k2c3 : Code := { maxStack := 1, maxLocals := 1, code := prog_18_method_6_code, exceptionTable := #[], attributes := #[] }
def k2m3 : Method := { name := "bits", desc := "()I", sig := { parameters := [], returnType := some .int }, accessFlags := 1, code := some k2c3 }
def k2c4 : Code := { maxStack := 2, maxLocals := 1, code := prog_18_method_7_code, exceptionTable := #[], attributes := #[] }
def k2m4 : Method := { name := "parityBits", desc := "()I", sig := { parameters := [], returnType := some .int }, accessFlags := 1, code := some k2c4 }
def k2c5 : Code := { maxStack := 2, maxLocals := 2, code := prog_18_method_9_code, exceptionTable := #[], attributes := #[] }
def k2m5 : Method := { name := "get", desc := "(I)I", sig := { parameters := [.int], returnType := some .int }, accessFlags := 1, code := some k2c5 }
/-- com/example/cardbench/cardbench/Frame -/
def k2 : Class := { plain "com/example/cardbench/cardbench/Frame" (some 0) with
  accessFlags := 49
  interfaces := #[]
  cf := some (fileOf pool2 8 #[] #[{ accessFlags := 2, nameIndex := 5, descriptorIndex := 24, attributes := #[] }, { accessFlags := 137, nameIndex := 50, descriptorIndex := 92, attributes := #[] }, { accessFlags := 1, nameIndex := 99, descriptorIndex := 100, attributes := #[] }, { accessFlags := 1, nameIndex := 15, descriptorIndex := 100, attributes := #[] }, { accessFlags := 1, nameIndex := 101, descriptorIndex := 100, attributes := #[] }, { accessFlags := 1, nameIndex := 58, descriptorIndex := 55, attributes := #[] }] 49 2 #[] #[{ accessFlags := 26, nameIndex := 87, descriptorIndex := 16, attributes := #[] }, { accessFlags := 26, nameIndex := 61, descriptorIndex := 62, attributes := #[] }, { accessFlags := 18, nameIndex := 11, descriptorIndex := 12, attributes := #[] }, { accessFlags := 18, nameIndex := 15, descriptorIndex := 16, attributes := #[] }])
  fields := #[{ name := "SHORT_FRAME_BITS", type := .int, accessFlags := 26, slot := 0, constantValue := 0 }, { name := "HEX", type := (.object "java/util/HexFormat"), accessFlags := 26, slot := 1, constantValue := 0 }, { name := "bytes", type := (.array .byte), accessFlags := 18, slot := 0, constantValue := 0 }, { name := "bits", type := .int, accessFlags := 18, slot := 1, constantValue := 0 }]
  methods := #[k2m0, k2m1, k2m2, k2m3, k2m4, k2m5]
  instanceTypes := #[(.array .byte), .int]
  staticTypes := #[.int, (.object "java/util/HexFormat")]
  resolved := Array.replicate 129 none
  statics := none }

def pool3 : Array CpInfo := pool [(1, .class_ 2), (0, u "java/lang/Cloneable"), (0, .class_ 4), (0, u "java/lang/Object")] 2

/-- java/lang/Cloneable -/
def k3 : Class := { plain "java/lang/Cloneable" (some 0) with
  accessFlags := 1537
  interfaces := #[]
  cf := some (fileOf pool3 1 #[] #[] 1537 3 #[] #[])
  fields := #[]
  methods := #[]
  instanceTypes := #[]
  staticTypes := #[]
  resolved := Array.replicate 7 none
  statics := none }

def pool4 : Array CpInfo := pool [(1, u "java/io/Serializable"), (0, .class_ 1), (0, u "java/lang/Object"), (0, .class_ 3)] 3

/-- java/io/Serializable -/
def k4 : Class := { plain "java/io/Serializable" (some 0) with
  accessFlags := 1537
  interfaces := #[]
  cf := some (fileOf pool4 2 #[] #[] 1537 4 #[] #[])
  fields := #[]
  methods := #[]
  instanceTypes := #[]
  staticTypes := #[]
  resolved := Array.replicate 8 none
  statics := none }

/-- the primitive byte -/
def k5 : Class := { plain "byte" none with kind := .primitive 'B', accessFlags := 0x411 }
/-- [B -/
def k6 : Class := { plain "[B" (some 0) with kind := .array 5 .byte, interfaces := #[3, 4], accessFlags := 1041 }

/-- the primitive int -/
def k7 : Class := { plain "int" none with kind := .primitive 'I', accessFlags := 0x411 }
/-- [I -/
def k8 : Class := { plain "[I" (some 0) with kind := .array 7 .int, interfaces := #[3, 4], accessFlags := 1041 }

def heap : Heap := #[]
def classes : Array Class := #[k0, k1, k2, k3, k4, k5, k6, k7, k8]
def interned : List (Array UInt16 × Addr) := []
def slotsUsed : Nat := 0
def theMethod : MethodId := ⟨1, 2⟩
def args0 : Array Value := #[.int 1, .int 2, .int 3, .int 4, .int 5]
def aboutOver (below : List Frame) : State where
  vm := { classes := classes, interned := interned.toArray }
  heap := heap
  slotsUsed := slotsUsed
  threads := #[{ frames := .invoking theMethod args0 :: below }]
def below0 : List Frame := [.native { method := ⟨0, 0⟩, args := #[] }]
def about1 : State := aboutOver below0
def p0 : Program := .bare "" "" ""
def e0 : Env := launch0.env 0 0 0
theorem w_frames : about1.frames = Frame.invoking theMethod args0 :: below0 := rfl
set_option maxRecDepth 65536 in
theorem w_args : argsFit about1.vm theMethod args0 = true := by decide +kernel
set_option maxRecDepth 65536 in
theorem w_heap : heapFits about1 = true := by decide +kernel
set_option maxRecDepth 65536 in
theorem w_runnable : about1.curStatus? = some .runnable := by decide +kernel
set_option maxRecDepth 65536 in
theorem w_alone : about1.alone = true := by decide +kernel
set_option maxRecDepth 65536 in
theorem w_named : about1.methodNamed? x = some theMethod := by decide +kernel
set_option maxRecDepth 65536 in
theorem w_hears : about1.hears theMethod below0 = true := by decide +kernel
set_option maxRecDepth 65536 in
theorem w_ripe : about1.ripe theMethod args0 below0 = true := by decide +kernel
theorem w_running : about1.status = .running := rfl
set_option maxRecDepth 65536 in
theorem w_room : about1.hasRoom e0.platform room_1 = true :=
  launch0.hasRoom_least _ room_1 (by decide +kernel) (by decide +kernel) (by decide +kernel) (by decide +kernel) (by decide +kernel) (by decide +kernel)
theorem allAtoms_all (ts : List Jvm.Cond) (a : Array Jvm.Value) (st : Jvm.State) : (allAtoms ts).before a st = ts.all (fun c => c.before a st) := by
  induction ts with
  | nil => rfl
  | cons c t ih =>
    show (Jvm.Cond.and c (allAtoms t)).before a st = _
    rw [Jvm.Cond.before_and, ih, List.all_cons]
def words1 : List Jvm.Cond := Jvm.Cond.code x code maxLocals ret :: tables_1
/-- a 'code' word, met by the world's own term for the bytes: nothing is compared byte by byte -/
theorem code_word {y : MethodName} {bytes : ByteArray} {mx : Nat} {rt : Option FieldType} {a : Array Value} {s : State} {m : MethodId} {meth : Method} {c : Code} (h1 : s.methodNamed? y = some m) (h2 : s.vm.method? m = some meth) (h3 : meth.code = some c) (h4 : c.code = bytes)
    (h5 : (c.maxLocals == mx && c.exceptionTable.isEmpty && decide (c.maxStack ≤ mostOperands) && decide (meth.sig.returnType = rt) && !meth.locks && decide (parseMethodDescriptor y.desc = some meth.sig)) = true) : (Jvm.Cond.code y bytes mx rt).before a s = true := by
  simp only [Bool.and_eq_true, beq_iff_eq, Bool.not_eq_true', decide_eq_true_eq] at h5
  obtain ⟨⟨⟨⟨⟨g1, g2⟩, g3⟩, g4⟩, g5⟩, g6⟩ := h5
  simp [Cond.before, Cond.holds, Cond.value, h1, h2, h3, h4, g1, g2, g3, g4, g5, g6]
def isCode : Jvm.Cond → Bool
  | .code _ _ _ _ => true
  | _ => false
theorem all_split {L : List Jvm.Cond} {P : Jvm.Cond → Bool} (h1 : L.all (fun c => isCode c || P c) = true) (h2 : ∀ c ∈ L.filter isCode, P c = true) : L.all P = true := by
  refine List.all_eq_true.mpr fun c hc => ?_
  have h := List.all_eq_true.mp h1 c hc
  rcases Bool.eq_false_or_eq_true (isCode c) with hi | hi
  · exact h2 c (List.mem_filter.mpr ⟨hc, hi⟩)
  · simpa [hi] using h
set_option maxRecDepth 65536 in
theorem w_c0 : (Jvm.Cond.code x code maxLocals ret).before args0 about1 = true := code_word (m := ⟨1, 2⟩) (meth := k1m2) (c := k1c2) (by decide +kernel) rfl rfl rfl (by decide +kernel)
set_option maxRecDepth 65536 in
theorem w_c1 : (Jvm.Cond.code ({ cls := "com/example/cardbench/cardbench/FrameOfPinLaw", name := "build", desc := "(IIIII)[B" } : Jvm.MethodName) method_2_code (5 : Nat) (Option.some (Jvm.ClassFile.FieldType.array Jvm.ClassFile.FieldType.byte))).before args0 about1 = true := code_word (m := ⟨1, 1⟩) (meth := k1m1) (c := k1c1) (by decide +kernel) rfl rfl rfl (by decide +kernel)
set_option maxRecDepth 65536 in
theorem w_c2 : (Jvm.Cond.code ({ cls := "com/example/cardbench/cardbench/Frame", name := "of", desc := "([B)Lcom/example/cardbench/cardbench/Frame;" } : Jvm.MethodName) prog_18_method_2_code (1 : Nat) (Option.some (Jvm.ClassFile.FieldType.object "com/example/cardbench/cardbench/Frame"))).before args0 about1 = true := code_word (m := ⟨2, 1⟩) (meth := k2m1) (c := k2c1) (by decide +kernel) rfl rfl rfl (by decide +kernel)
set_option maxRecDepth 65536 in
theorem w_c3 : (Jvm.Cond.code ({ cls := "com/example/cardbench/cardbench/Frame", name := "<init>", desc := "([BI)V" } : Jvm.MethodName) prog_18_method_1_code (3 : Nat) (Option.none : Option Jvm.ClassFile.FieldType)).before args0 about1 = true := code_word (m := ⟨2, 0⟩) (meth := k2m0) (c := k2c0) (by decide +kernel) rfl rfl rfl (by decide +kernel)
set_option maxRecDepth 65536 in
theorem w_c4 : (Jvm.Cond.code ({ cls := "java/lang/Object", name := "<init>", desc := "()V" } : Jvm.MethodName) object_method_1_code (1 : Nat) (Option.none : Option Jvm.ClassFile.FieldType)).before args0 about1 = true := code_word (m := ⟨0, 0⟩) (meth := k0m0) (c := k0c0) (by decide +kernel) rfl rfl rfl (by decide +kernel)
set_option maxRecDepth 65536 in
theorem w_c5 : (Jvm.Cond.code ({ cls := "com/example/cardbench/cardbench/Frame", name := "length", desc := "()I" } : Jvm.MethodName) prog_18_method_5_code (1 : Nat) (Option.some Jvm.ClassFile.FieldType.int)).before args0 about1 = true := code_word (m := ⟨2, 2⟩) (meth := k2m2) (c := k2c2) (by decide +kernel) rfl rfl rfl (by decide +kernel)
set_option maxRecDepth 65536 in
theorem w_c6 : (Jvm.Cond.code ({ cls := "com/example/cardbench/cardbench/Frame", name := "bits", desc := "()I" } : Jvm.MethodName) prog_18_method_6_code (1 : Nat) (Option.some Jvm.ClassFile.FieldType.int)).before args0 about1 = true := code_word (m := ⟨2, 3⟩) (meth := k2m3) (c := k2c3) (by decide +kernel) rfl rfl rfl (by decide +kernel)
set_option maxRecDepth 65536 in
theorem w_c7 : (Jvm.Cond.code ({ cls := "com/example/cardbench/cardbench/Frame", name := "parityBits", desc := "()I" } : Jvm.MethodName) prog_18_method_7_code (1 : Nat) (Option.some Jvm.ClassFile.FieldType.int)).before args0 about1 = true := code_word (m := ⟨2, 4⟩) (meth := k2m4) (c := k2c4) (by decide +kernel) rfl rfl rfl (by decide +kernel)
set_option maxRecDepth 65536 in
theorem w_c8 : (Jvm.Cond.code ({ cls := "com/example/cardbench/cardbench/Frame", name := "get", desc := "(I)I" } : Jvm.MethodName) prog_18_method_9_code (2 : Nat) (Option.some Jvm.ClassFile.FieldType.int)).before args0 about1 = true := code_word (m := ⟨2, 5⟩) (meth := k2m5) (c := k2c5) (by decide +kernel) rfl rfl rfl (by decide +kernel)
def codes1 : List Jvm.Cond := [Jvm.Cond.code x code maxLocals ret, Jvm.Cond.code ({ cls := "com/example/cardbench/cardbench/FrameOfPinLaw", name := "build", desc := "(IIIII)[B" } : Jvm.MethodName) method_2_code (5 : Nat) (Option.some (Jvm.ClassFile.FieldType.array Jvm.ClassFile.FieldType.byte)), Jvm.Cond.code ({ cls := "com/example/cardbench/cardbench/Frame", name := "of", desc := "([B)Lcom/example/cardbench/cardbench/Frame;" } : Jvm.MethodName) prog_18_method_2_code (1 : Nat) (Option.some (Jvm.ClassFile.FieldType.object "com/example/cardbench/cardbench/Frame")), Jvm.Cond.code ({ cls := "com/example/cardbench/cardbench/Frame", name := "<init>", desc := "([BI)V" } : Jvm.MethodName) prog_18_method_1_code (3 : Nat) (Option.none : Option Jvm.ClassFile.FieldType), Jvm.Cond.code ({ cls := "java/lang/Object", name := "<init>", desc := "()V" } : Jvm.MethodName) object_method_1_code (1 : Nat) (Option.none : Option Jvm.ClassFile.FieldType), Jvm.Cond.code ({ cls := "com/example/cardbench/cardbench/Frame", name := "length", desc := "()I" } : Jvm.MethodName) prog_18_method_5_code (1 : Nat) (Option.some Jvm.ClassFile.FieldType.int), Jvm.Cond.code ({ cls := "com/example/cardbench/cardbench/Frame", name := "bits", desc := "()I" } : Jvm.MethodName) prog_18_method_6_code (1 : Nat) (Option.some Jvm.ClassFile.FieldType.int), Jvm.Cond.code ({ cls := "com/example/cardbench/cardbench/Frame", name := "parityBits", desc := "()I" } : Jvm.MethodName) prog_18_method_7_code (1 : Nat) (Option.some Jvm.ClassFile.FieldType.int), Jvm.Cond.code ({ cls := "com/example/cardbench/cardbench/Frame", name := "get", desc := "(I)I" } : Jvm.MethodName) prog_18_method_9_code (2 : Nat) (Option.some Jvm.ClassFile.FieldType.int)]
set_option maxRecDepth 65536 in
theorem codes_eq : words1.filter isCode = codes1 := rfl
theorem w_codes : ∀ c ∈ words1.filter isCode, c.before args0 about1 = true := by
  rw [codes_eq]
  intro c hc
  simp only [codes1, List.mem_cons, List.not_mem_nil, or_false] at hc
  rcases hc with rfl | rfl | rfl | rfl | rfl | rfl | rfl | rfl | rfl
  · exact w_c0
  · exact w_c1
  · exact w_c2
  · exact w_c3
  · exact w_c4
  · exact w_c5
  · exact w_c6
  · exact w_c7
  · exact w_c8
set_option maxRecDepth 65536 in
theorem w_t1 : (words1.take 24).all (fun c => isCode c || c.before args0 about1) = true := by decide +kernel
set_option maxRecDepth 65536 in
theorem w_t2 : ((words1.drop 24).take 24).all (fun c => isCode c || c.before args0 about1) = true := by decide +kernel
set_option maxRecDepth 65536 in
theorem w_t3 : ((words1.drop 24).drop 24).all (fun c => isCode c || c.before args0 about1) = true := by decide +kernel
theorem w_tables : (allAtoms (Jvm.Cond.code x code maxLocals ret :: tables_1)).before args0 about1 = true := by
  rw [allAtoms_all]
  show words1.all (fun c => c.before args0 about1) = true
  refine all_split ?_ w_codes
  rw [← List.take_append_drop 24 words1, List.all_append, w_t1, ← List.take_append_drop 24 (words1.drop 24), List.all_append, w_t2, w_t3]
  rfl
set_option maxRecDepth 65536 in
theorem w_case : (Jvm.Cond.and given_1 narrow_1).before args0 about1 = true := by decide +kernel
theorem w_applies : (headSpec (Jvm.Cond.code x code maxLocals ret :: tables_1) room_1).applies x e0.platform about1 = true :=
  (Spec.applies_iff w_frames).mpr ⟨w_running, w_runnable, w_alone, w_named, w_hears, w_ripe, w_room, w_tables⟩
theorem atStart : AtStart classFile x code maxLocals ret World_1 tables_1 room_1 Calls_1 rest_1 Pre_1 launch0 p0 e0 about1 theMethod args0 below0 :=
  ⟨lists_1, trivial, launch0.admits_env _ _ _, launch0.least_env, fairChoices_fair.cas, fairChoices_fair.clock, w_frames, w_args, w_heap, w_applies, trivial, trivial, w_case⟩
end start1
theorem witness_1 : WitnessClaimed_1 := ⟨start1.p0, start1.e0, start1.about1, start1.theMethod, start1.args0, start1.below0, start1.atStart⟩
end Jvm.Pilot.@@N@@
