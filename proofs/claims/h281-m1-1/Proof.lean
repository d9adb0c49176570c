import JvmDerived
import JvmDerived.Pilot.@@N@@Statement
import JvmDerived.Pilot.@@N@@Code
set_option linter.unusedVariables false
set_option linter.unusedSimpArgs false
namespace Jvm.Pilot.@@N@@
open Jvm Jvm.ClassFile Sem Op Lib Jvm.Free Jvm.Stand Jvm.LawKit Jvm.RoadKit Bundle Jvm.Pilot.@@N@@.Jvm.D
/-! the walk in continuation style: 'Fin': from F on the run comes to an end that answers Q -/
section Own
variable {p : Program} {l : Launch} {e : Env} {R : Room} {s : State} {m : MethodId} {args : Array Value} {below : List Frame} {meth : Method} {c : Code} {T : State} {locs : List Loc} {cells slots : Nat}
def OFin (p : Program) (e : Env) (below : List Frame) (Q : Outcome → State → Prop) (F : State) : Prop := ∃ s₂ o, Steps p.tables e below F s₂ ∧ s₂.status = .running ∧ Ended s₂ below o ∧ Q o s₂
def ORet (Q : Option Value → Heap → List Loc → Prop) (s : State) (C S : Nat) (o : Outcome) (U' : State) : Prop := ∃ v L, o = .returned v ∧ Q v U'.heap L ∧ FrameEnd s o U' L C S
theorem OFin.go {Q : Outcome → State → Prop} {F F' : State} (st : ∀ t, Steps p.tables e below F' t → Steps p.tables e below F t) (h : OFin p e below Q F') : OFin p e below Q F := by
  obtain ⟨s2, o, h1, r⟩ := h; exact ⟨s2, o, st _ h1, r⟩
theorem OFin.tr {Q : Outcome → State → Prop} {F F' : State} (st : Steps p.tables e below F F') (h : OFin p e below Q F') : OFin p e below Q F := by
  obtain ⟨s2, o, h1, r⟩ := h; exact ⟨s2, o, st.trans h1, r⟩
variable {Q : Option Value → Heap → List Loc → Prop} {C S : Nat}
theorem finZ (X : Stand p l e R s m args below meth c T locs cells slots) (hx : p.tables.exec = Jvm.exec) (hlocks : meth.locks = false) {t : FieldType} (hret : meth.sig.returnType = some t) (ht : t = .boolean ∨ t = .byte ∨ t = .char ∨ t = .short) {pc : Nat} (hd : decode c.code pc = .ok (.ireturn, 1)) {z z' : Int32} (hz : nar t z = z') (hc : cells ≤ C) (hs : slots ≤ S) {Ls : Array Slot} {rest : List Value} (hQ : Q (some (.int z')) T.heap locs) : OFin p e below (ORet Q s C S) (T.setTop (mkF m pc Ls (.int z :: rest))) := by
  subst hz
  obtain ⟨fs, hr, hrun, hended, hW, hsame⟩ := X.leave (v := some (.int (nar t z))) (fun h => by rw [hret] at h; cases h)
  exact ⟨_, _, retN X hx (t := t) hret ht hd hr, hrun, hended, _, _, rfl, hQ, ⟨_, rfl⟩, hW, hsame.mono hc hs⟩
theorem finI (X : Stand p l e R s m args below meth c T locs cells slots) (hx : p.tables.exec = Jvm.exec) (hlocks : meth.locks = false) (hret : meth.sig.returnType = some .int) {pc : Nat} (hd : decode c.code pc = .ok (.ireturn, 1)) {z : Int32} (hc : cells ≤ C) (hs : slots ≤ S) {Ls : Array Slot} {rest : List Value} (hQ : Q (some (.int z)) T.heap locs) : OFin p e below (ORet Q s C S) (T.setTop (mkF m pc Ls (.int z :: rest))) := by
  obtain ⟨fs, hr, hrun, hended, hW, hsame⟩ := X.leave (v := some (.int z)) (fun h => by rw [hret] at h; cases h)
  exact ⟨_, _, retOut X hx hret rfl (Or.inl ⟨rfl, Or.inl rfl, _, rfl⟩) hd hr, hrun, hended, _, _, rfl, hQ, ⟨_, rfl⟩, hW, hsame.mono hc hs⟩
theorem finJ (X : Stand p l e R s m args below meth c T locs cells slots) (hx : p.tables.exec = Jvm.exec) (hlocks : meth.locks = false) (hret : meth.sig.returnType = some .long) {pc : Nat} (hd : decode c.code pc = .ok (.lreturn, 1)) {z : Int64} (hc : cells ≤ C) (hs : slots ≤ S) {Ls : Array Slot} {rest : List Value} (hQ : Q (some (.long z)) T.heap locs) : OFin p e below (ORet Q s C S) (T.setTop (mkF m pc Ls (.long z :: rest))) := by
  obtain ⟨fs, hr, hrun, hended, hW, hsame⟩ := X.leave (v := some (.long z)) (fun h => by rw [hret] at h; cases h)
  exact ⟨_, _, retOut X hx hret rfl (Or.inr (Or.inl ⟨rfl, rfl, _, rfl⟩)) hd hr, hrun, hended, _, _, rfl, hQ, ⟨_, rfl⟩, hW, hsame.mono hc hs⟩
theorem finA (X : Stand p l e R s m args below meth c T locs cells slots) (hx : p.tables.exec = Jvm.exec) (hlocks : meth.locks = false) {w : Value} (hw : w.isRef = true) {t : FieldType} (hret : meth.sig.returnType = some t) (ht : t.isReference = true) {pc : Nat} (hd : decode c.code pc = .ok (.areturn, 1)) (hc : cells ≤ C) (hs : slots ≤ S) {Ls : Array Slot} {rest : List Value} (hQ : Q (some w) T.heap locs) : OFin p e below (ORet Q s C S) (T.setTop (mkF m pc Ls (w :: rest))) := by
  obtain ⟨fs, hr, hrun, hended, hW, hsame⟩ := X.leave (v := some w) (fun h => by rw [hret] at h; cases h)
  refine ⟨_, _, retOut X hx hret ?_ (Or.inr (Or.inr (Or.inr (Or.inr ⟨rfl, ht, hw⟩)))) hd hr, hrun, hended, _, _, rfl, hQ, ⟨_, rfl⟩, hW, hsame.mono hc hs⟩
  cases w <;> first | (simp [Value.isRef] at hw; done) | (cases t <;> first | rfl | (simp [FieldType.isReference] at ht; done))
theorem finV (X : Stand p l e R s m args below meth c T locs cells slots) (hx : p.tables.exec = Jvm.exec) (hlocks : meth.locks = false) (hret : meth.sig.returnType = none) {pc : Nat} (hd : decode c.code pc = .ok (.return_, 1)) (hc : cells ≤ C) (hs : slots ≤ S) {Ls : Array Slot} (hQ : Q none T.heap locs) : OFin p e below (ORet Q s C S) (T.setTop (mkF m pc Ls [])) := by
  obtain ⟨fs, hr, hrun, hended, hW, hsame⟩ := X.leave (v := none) (fun _ => rfl)
  exact ⟨_, _, X.returnOut hx hret hd hr, hrun, hended, _, _, rfl, hQ, ⟨_, rfl⟩, hW, hsame.mono hc hs⟩
end Own
/-- a boolean as the int that bears it -/
def bi (P : Prop) [Decidable P] : Int32 := if P then 1 else 0
theorem bi_t {P : Prop} [Decidable P] (h : P) : bi P = 1 := if_pos h
theorem bi_f {P : Prop} [Decidable P] (h : ¬ P) : bi P = 0 := if_neg h
theorem nar_bi (P : Prop) [Decidable P] : nar .boolean (bi P) = bi P := by unfold bi; split <;> rfl
theorem bi_iff {P Q : Prop} [Decidable P] [Decidable Q] : bi P = bi Q ↔ (P ↔ Q) := by
  unfold bi; by_cases h : P <;> by_cases k : Q <;> simp [h, k]
theorem bi0 {P : Prop} [Decidable P] : (bi P = 0) ↔ ¬ P := by unfold bi; by_cases h : P <;> simp [h]
theorem bi_ne_t {P : Prop} [Decidable P] (h : P) : ifCond.holds .ne (bi P) = true := by rw [bi_t h]; rfl
theorem bi_ne_f {P : Prop} [Decidable P] (h : ¬ P) : ifCond.holds .ne (bi P) = false := by rw [bi_f h]; rfl
theorem bi_eq_t {P : Prop} [Decidable P] (h : ¬ P) : ifCond.holds .eq (bi P) = true := by rw [bi_f h]; rfl
theorem bi_eq_f {P : Prop} [Decidable P] (h : P) : ifCond.holds .eq (bi P) = false := by rw [bi_t h]; rfl
theorem lc_lt_t {x y : Int64} (h : x < y) : ifCond.holds .lt (lcmpW x y) = true := (if0 _ _).trans (tlt ((lw_lt x y).mpr h)).1
theorem lc_lt_f {x y : Int64} (h : ¬ x < y) : ifCond.holds .lt (lcmpW x y) = false := (if0 _ _).trans (flt fun q => h ((lw_lt x y).mp q)).1
theorem lc_ge_t {x y : Int64} (h : ¬ x < y) : ifCond.holds .ge (lcmpW x y) = true := (if0 _ _).trans (flt fun q => h ((lw_lt x y).mp q)).2.1
theorem lc_ge_f {x y : Int64} (h : x < y) : ifCond.holds .ge (lcmpW x y) = false := (if0 _ _).trans (tlt ((lw_lt x y).mpr h)).2.1
theorem lc_gt_t {x y : Int64} (h : y < x) : ifCond.holds .gt (lcmpW x y) = true := (if0 _ _).trans (tlt ((lw_gt x y).mpr h)).2.2.1
theorem lc_gt_f {x y : Int64} (h : ¬ y < x) : ifCond.holds .gt (lcmpW x y) = false := (if0 _ _).trans (flt fun q => h ((lw_gt x y).mp q)).2.2.1
theorem lc_le_t {x y : Int64} (h : ¬ y < x) : ifCond.holds .le (lcmpW x y) = true := (if0 _ _).trans (flt fun q => h ((lw_gt x y).mp q)).2.2.2
theorem lc_le_f {x y : Int64} (h : y < x) : ifCond.holds .le (lcmpW x y) = false := (if0 _ _).trans (tlt ((lw_gt x y).mpr h)).2.2.2
theorem lc_eq_t {x y : Int64} (h : x = y) : ifCond.holds .eq (lcmpW x y) = true := (if0 _ _).trans (teq ((lw_eq x y).mpr h)).1
theorem lc_eq_f {x y : Int64} (h : ¬ x = y) : ifCond.holds .eq (lcmpW x y) = false := (if0 _ _).trans (feq fun q => h ((lw_eq x y).mp q)).1
theorem lc_ne_t {x y : Int64} (h : ¬ x = y) : ifCond.holds .ne (lcmpW x y) = true := (if0 _ _).trans (feq fun q => h ((lw_eq x y).mp q)).2
theorem lc_ne_f {x y : Int64} (h : x = y) : ifCond.holds .ne (lcmpW x y) = false := (if0 _ _).trans (teq ((lw_eq x y).mpr h)).2
/-! arrays by their places -/
def upd {α : Type} (f : Nat → α) (i : Nat) (v : α) : Nat → α := fun j => if j = i then v else f j
theorem upd_hit {α : Type} (f : Nat → α) (i : Nat) (v : α) : upd f i v i = v := if_pos rfl
theorem upd_miss {α : Type} {f : Nat → α} {i j : Nat} {v : α} (h : j ≠ i) : upd f i v j = f j := if_neg h
def Ara (Z : State) (h : Heap) (a : Addr) (ty : FieldType) (n : Nat) (f : Nat → Value) : Prop := ∃ c : Cell, Arr Z h a c ty ∧ c.slots.size = n ∧ n < 2 ^ 31 ∧ ∀ i, i < n → c.slots[i]? = some (f i)
section Ara
variable {Z : State} {h h' : Heap} {a b : Addr} {ty : FieldType} {n : Nat} {f f' : Nat → Value} {sl : Nat} {v : Value} {ws : List Addr}
theorem Ara.lt (F : Ara Z h a ty n f) : a < h.size := by obtain ⟨c, A, -⟩ := F; exact A.lt
theorem Ara.ext (F : Ara Z h a ty n f) (E : Ext h h') : Ara Z h' a ty n f := by obtain ⟨c, A, r⟩ := F; exact ⟨c, A.ext E, r⟩
theorem Ara.other (F : Ara Z h b ty n f) (W : Wr h h' a sl v) (q : b ≠ a) : Ara Z h' b ty n f := by obtain ⟨c, A, r⟩ := F; exact ⟨c, A.other W q, r⟩
theorem Ara.keep (F : Ara Z h a ty n f) (K : Keep h h' ws) (q : a ∉ ws) : Ara Z h' a ty n f := by obtain ⟨c, A, r⟩ := F; exact ⟨c, ⟨K.2.1 a c A.1 q, A.2⟩, r⟩
theorem Ara.set (F : Ara Z h a ty n f) (W : Wr h h' a sl v) : Ara Z h' a ty n (upd f sl v) := by
  obtain ⟨c, A, r1, r2, r3⟩ := F
  refine ⟨_, A.same W, by rw [sz_set]; exact r1, r2, fun i hi => ?_⟩
  by_cases q : i = sl
  · subst q; rw [upd_hit]; simp [Cell.setSlot, r1, hi]
  · rw [upd_miss q]; simp only [Cell.setSlot]; rw [Array.getElem?_setIfInBounds_ne (fun z => q z.symm)]; exact r3 i hi
theorem Ara.new {k : ClassId} {z : Int32} (A : Arr Z h a (newA k ty z) ty) (hn : z.toNatClampNeg = n) : Ara Z h a ty n (fun _ => defaultValue ty) := by
  refine ⟨_, A, by rw [sz_new]; exact hn, ?_, fun i hi => ?_⟩
  · rw [← hn]; have := z.toInt_lt; unfold Int32.toNatClampNeg; omega
  · rw [← hn] at hi; simp [newA, hi]
theorem Ara.congr (F : Ara Z h a ty n f) (q : ∀ i, i < n → f i = f' i) : Ara Z h a ty n f' := by obtain ⟨c, A, r1, r2, r3⟩ := F; exact ⟨c, A, r1, r2, fun i hi => by rw [← q i hi]; exact r3 i hi⟩
variable {p : Program} {l : Launch} {e : Env} {R : Room} {s : State} {m : MethodId} {args : Array Value} {below : List Frame} {meth : Method} {c : Code} {T : State} {locs : List Loc} {cells slots : Nat} {j : Int32} {i : Nat} {rest : List Value} {g : JFrame} {t : State} {x : Value}
theorem hin_of {cl : Cell} (S : cl.slots.size = n) (hj0 : ¬ j < 0) (hj : j.toNatClampNeg = i) (hi : i < n) : ¬ (j < 0 ∨ cl.slots.size ≤ j.toNatClampNeg) := by rw [S, hj]; exact fun q => q.elim hj0 (Nat.not_le.mpr hi)
theorem rdB (X : Stand p l e R s m args below meth c T locs cells slots) (hx : p.tables.exec = Jvm.exec) (hZ : Z.Warmed39 s.vm) (eT : T.heap = h) (F : Ara Z h a .byte n f) (hj0 : ¬ j < 0) (hj : j.toNatClampNeg = i) (hi : i < n) (hv : f i = x) (hg : g.method = m) (hs : g.stack = .int j :: .ref a :: rest) (hd : decode c.code g.pc = .ok (.baload, 1))
    (k : Steps p.tables e below (T.setTop { g with pc := g.pc + 1, stack := x :: rest }) t) : Steps p.tables e below (T.setTop g) t := by
  obtain ⟨cl, A, r1, r2, r3⟩ := F
  exact X.baloadBytes hx (by rw [eT]; exact A.1) (State.isArrayOf_alike hZ.alike A.2.1) A.2.2 (hin_of r1 hj0 hj hi) (by rw [hj, r3 i hi, hv]) hg hs hd _ k
theorem rdI (X : Stand p l e R s m args below meth c T locs cells slots) (hx : p.tables.exec = Jvm.exec) (hZ : Z.Warmed39 s.vm) (eT : T.heap = h) (F : Ara Z h a .int n f) (hj0 : ¬ j < 0) (hj : j.toNatClampNeg = i) (hi : i < n) (hv : f i = x) (hg : g.method = m) (hs : g.stack = .int j :: .ref a :: rest) (hd : decode c.code g.pc = .ok (.iaload, 1))
    (k : Steps p.tables e below (T.setTop { g with pc := g.pc + 1, stack := x :: rest }) t) : Steps p.tables e below (T.setTop g) t := by
  obtain ⟨cl, A, r1, r2, r3⟩ := F
  exact X.iaload hx (by rw [eT]; exact A.1) (State.isArrayOf_alike hZ.alike A.2.1) A.2.2 (hin_of r1 hj0 hj hi) (by rw [hj, r3 i hi, hv]) hg hs hd _ k
theorem rdJ (X : Stand p l e R s m args below meth c T locs cells slots) (hx : p.tables.exec = Jvm.exec) (hZ : Z.Warmed39 s.vm) (eT : T.heap = h) (F : Ara Z h a .long n f) (hj0 : ¬ j < 0) (hj : j.toNatClampNeg = i) (hi : i < n) (hv : f i = x) (hg : g.method = m) (hs : g.stack = .int j :: .ref a :: rest) (hd : decode c.code g.pc = .ok (.laload, 1))
    (k : Steps p.tables e below (T.setTop { g with pc := g.pc + 1, stack := x :: rest }) t) : Steps p.tables e below (T.setTop g) t := by
  obtain ⟨cl, A, r1, r2, r3⟩ := F
  exact X.laload hx (by rw [eT]; exact A.1) (State.isArrayOf_alike hZ.alike A.2.1) A.2.2 (hin_of r1 hj0 hj hi) (by rw [hj, r3 i hi, hv]) hg hs hd _ k
theorem rdR (X : Stand p l e R s m args below meth c T locs cells slots) (hx : p.tables.exec = Jvm.exec) (hZ : Z.Warmed39 s.vm) (eT : T.heap = h) (F : Ara Z h a ty n f) (hty : ty.isReference = true) (hj0 : ¬ j < 0) (hj : j.toNatClampNeg = i) (hi : i < n) (hv : f i = x) (hg : g.method = m) (hs : g.stack = .int j :: .ref a :: rest) (hd : decode c.code g.pc = .ok (.aaload, 1))
    (k : Steps p.tables e below (T.setTop { g with pc := g.pc + 1, stack := x :: rest }) t) : Steps p.tables e below (T.setTop g) t := by
  obtain ⟨cl, A, r1, r2, r3⟩ := F
  exact X.aaload hx (by rw [eT]; exact A.1) (State.isArrayOf_alike hZ.alike A.2.1) hty A.2.2 (hin_of r1 hj0 hj hi) (by rw [hj, r3 i hi, hv]) hg hs hd _ k
theorem alen (X : Stand p l e R s m args below meth c T locs cells slots) (hx : p.tables.exec = Jvm.exec) (hZ : Z.Warmed39 s.vm) (eT : T.heap = h) (F : Ara Z h a ty n f) {z : Int32} (hz : n.toInt32 = z) (hg : g.method = m) (hs : g.stack = .ref a :: rest) (hd : decode c.code g.pc = .ok (.arraylength, 1))
    (k : Steps p.tables e below (T.setTop { g with pc := g.pc + 1, stack := .int z :: rest }) t) : Steps p.tables e below (T.setTop g) t := by
  obtain ⟨cl, A, r1, r2, r3⟩ := F
  refine X.arraylength hx (by rw [eT]; exact A.1) (State.isArrayOf_alike hZ.alike A.2.1) hg hs hd _ ?_
  rw [r1, hz]; exact k
theorem wrB (X : Stand p l e R s m args below meth c T locs cells slots) (hx : p.tables.exec = Jvm.exec) (hZ : Z.Warmed39 s.vm) (eT : T.heap = h) (F : Ara Z h a .byte n f) {y : Int32} (hj0 : ¬ j < 0) (hj : j.toNatClampNeg = i) (hi : i < n) {y' : Int32} (hy : nar .byte y = y') (hg : g.method = m) (hs : g.stack = .int y :: .int j :: .ref a :: rest) (hd : decode c.code g.pc = .ok (.bastore, 1)) :
    ∃ T' h', Stand p l e R s m args below meth c T' (locs ++ [⟨a, i⟩]) cells slots ∧ T'.heap = h' ∧ Wr h h' a i (.int y') ∧ ∀ target, Steps p.tables e below (T'.setTop { g with pc := g.pc + 1, stack := rest }) target → Steps p.tables e below (T.setTop g) target := by
  subst hj hy
  obtain ⟨cl, A, r1, r2, r3⟩ := F
  exact stB X hx hZ eT A (hin_of r1 hj0 rfl hi) hg hs hd
theorem wrI (X : Stand p l e R s m args below meth c T locs cells slots) (hx : p.tables.exec = Jvm.exec) (hZ : Z.Warmed39 s.vm) (eT : T.heap = h) (F : Ara Z h a .int n f) {y : Int32} (hj0 : ¬ j < 0) (hj : j.toNatClampNeg = i) (hi : i < n) (hg : g.method = m) (hs : g.stack = .int y :: .int j :: .ref a :: rest) (hd : decode c.code g.pc = .ok (.iastore, 1)) :
    ∃ T' h', Stand p l e R s m args below meth c T' (locs ++ [⟨a, i⟩]) cells slots ∧ T'.heap = h' ∧ Wr h h' a i (.int y) ∧ ∀ target, Steps p.tables e below (T'.setTop { g with pc := g.pc + 1, stack := rest }) target → Steps p.tables e below (T.setTop g) target := by
  subst hj
  obtain ⟨cl, A, r1, r2, r3⟩ := F
  exact stI X hx hZ eT A (hin_of r1 hj0 rfl hi) hg hs hd
theorem wrJ (X : Stand p l e R s m args below meth c T locs cells slots) (hx : p.tables.exec = Jvm.exec) (hZ : Z.Warmed39 s.vm) (eT : T.heap = h) (F : Ara Z h a .long n f) {y : Int64} (hj0 : ¬ j < 0) (hj : j.toNatClampNeg = i) (hi : i < n) (hg : g.method = m) (hs : g.stack = .long y :: .int j :: .ref a :: rest) (hd : decode c.code g.pc = .ok (.lastore, 1)) :
    ∃ T' h', Stand p l e R s m args below meth c T' (locs ++ [⟨a, i⟩]) cells slots ∧ T'.heap = h' ∧ Wr h h' a i (.long y) ∧ ∀ target, Steps p.tables e below (T'.setTop { g with pc := g.pc + 1, stack := rest }) target → Steps p.tables e below (T.setTop g) target := by
  subst hj
  obtain ⟨cl, A, r1, r2, r3⟩ := F
  exact stJ X hx hZ eT A (hin_of r1 hj0 rfl hi) hg hs hd
end Ara
theorem wr_le {h h' : Heap} {a : Addr} {sl : Nat} {v : Value} (W : Wr h h' a sl v) : h.size ≤ h'.size := Nat.le_of_eq W.size.symm
theorem up_lt {k a b : Nat} (h : a < k) (g : b = k) : a ≠ b := by omega
theorem nar_b (y : Int32) : nar .byte y.toInt8.toInt32 = y.toInt8.toInt32 := by show y.toInt8.toInt32.toInt8.toInt32 = _; rw [Int8.toInt8_toInt32]
theorem Sta_keep {Z : State} {h h' : Heap} {C n d : String} {v : Value} {ws : List Addr} {k : Nat} (F : Sta Z h C n d v) (K : Keep h h' ws) (q : ∀ x ∈ ws, Z.heap.size ≤ x) (hst : ∀ cf kk i f st, Z.fieldFound? C n d = some (cf, kk, i, f) → kk.statics = some st → st < Z.heap.size) : Sta Z h' C n d v := by
  obtain ⟨cf, i, kk, f, st, cell, h1, h2, h3, h4, h5, r⟩ := F
  exact ⟨cf, i, kk, f, st, cell, h1, h2, h3, h4, K.2.1 _ _ h5 (fun z => absurd (hst _ _ _ _ _ h1 h4) (Nat.not_lt.mpr (q _ z))), r⟩
theorem eqv_r {Z : State} {args : Array Value} {X F : Term} {idx : List Nat} {y : Addr} (hF : F.eval args Z none idx Z = some (.ref y)) (h : (Cond.eq X F).value args Z none Z idx = some true) : X.eval args Z none idx Z = some (.ref y) := by
  cases hx : X.eval args Z none idx Z with
  | none => simp [Cond.value, hF, hx] at h
  | some x => cases x <;> simp [Cond.value, hF, hx] at h ⊢ <;> exact h
/-! calls by a contract, in one piece -/
section Calls
variable {p : Program} {l : Launch} {e : Env} {R : Room} {s : State} {m : MethodId} {args : Array Value} {below : List Frame} {meth : Method} {c : Code} {T : State} {locs : List Loc} {cells slots : Nat} {Z : State} {a0 : Array Value} {h : Heap}
abbrev Meets1 (l : Launch) (y : MethodName) (bytes : ByteArray) (maxL : Nat) (ret : Option FieldType) (rm : Room) (Z : State) (as' : Array Value) (h : Heap) (Q : Option Value → Heap → List Loc → Prop) : Prop :=
  MetFree l y (head1 [Cond.code y bytes maxL ret] rm) (fun a U => a = as' ∧ Z.Warmed39 U.vm ∧ U.heap = h) (fun _ _ _ _ _ => True) (fun _ U o U' => ∃ v L, o = .returned v ∧ Q v U'.heap L ∧ FrameEnd U o U' L rm.cells rm.slots)
theorem callQ (X : Stand p l e R s m args below meth c T locs cells slots) (hx : p.tables.exec = Jvm.exec) (hZ : Z.Warmed39 s.vm) {own : String} {index : Nat} {y : MethodName} {bytes : ByteArray} {maxL : Nat} {ret : Option FieldType} (hown : s.vm.findClass own = some m.cls)
    (w1 : (Cond.methodLink own index y).before a0 Z = true) (w2 : (Cond.static y).before a0 Z = true) (w3 : (Cond.initialized y.cls).before a0 Z = true) (w4 : (Cond.code y bytes maxL ret).before a0 Z = true) (hy : y.cls ≠ "java/lang/invoke/MethodHandle" ∧ y.cls ≠ "java/lang/invoke/VarHandle")
    {rm : Room} {argsL rest : List Value} {Q : Option Value → Heap → List Loc → Prop} (hM : Meets1 l y bytes maxL ret rm Z argsL.toArray h Q) {W : Nat} (hf : rm.frames + 1 ≤ R.frames) (hl : W + (maxL + 11) + rm.locals ≤ R.locals) (eT : T.heap = h)
    {g : JFrame} (hg : g.method = m) (hsize : g.locals.size = c.maxLocals) (hlen : ∀ sig, parseMethodDescriptor y.desc = some sig → argsL.length = sig.parameters.length) (hstack : g.stack = argsL.reverse ++ rest) (hW : 2 * g.monitorRoom + (rest.map fun v => v.category).sum ≤ W) (hd : decode c.code g.pc = .ok (.invokestatic index, 3)) (hc : cells + rm.cells ≤ R.cells) (hs : slots + rm.slots ≤ R.slots) :
    ∃ v T' L, Stand p l e R s m args below meth c T' (locs ++ L) (cells + rm.cells) (slots + rm.slots) ∧ Q v T'.heap L ∧ ∀ target, Steps p.tables e below (T'.setTop { g with pc := g.pc + 3, stack := v.toList ++ rest }) target → Steps p.tables e below (T.setTop g) target := by
  obtain ⟨v, _, ⟨T', L', k', n'⟩, -, X', ⟨L, hQ, hl', hk', hn'⟩, st⟩ := Jvm.LawKit.callS X hx hown (mvT hZ w1) (mvT hZ w2) (mvT hZ w3) (mvT hZ w4) hy (backOf (W := W) hM hZ w4 w3 hf hl) hg hsize hlen hstack hW hd (fun _ _ => ⟨rfl, eT, hc, hs⟩)
  dsimp only [Pt.U, Pt.locs, Pt.cells, Pt.slots] at X' hl' hk' hn' st hQ
  subst hl' hk' hn'
  exact ⟨v, T', L, X', hQ, st⟩
theorem specQ (X : Stand p l e R s m args below meth c T locs cells slots) (hx : p.tables.exec = Jvm.exec) (hZ : Z.Warmed39 s.vm) {own : String} {index : Nat} {y : MethodName} {bytes : ByteArray} {maxL : Nat} (hy1 : y.name = "<init>") (hown : s.vm.findClass own = some m.cls)
    (w1 : (Cond.methodLink own index y).before a0 Z = true) (w2 : (Cond.instanceMethod y).before a0 Z = true) (w3 : (Cond.initialized y.cls).before a0 Z = true) (w4 : (Cond.code y bytes maxL none).before a0 Z = true) (hy : y.cls ≠ "java/lang/invoke/MethodHandle" ∧ y.cls ≠ "java/lang/invoke/VarHandle")
    {rm : Room} {a : Addr} {argsL rest : List Value} {Q : Option Value → Heap → List Loc → Prop} (hM : Meets1 l y bytes maxL none rm Z (.ref a :: argsL).toArray h Q) {W : Nat} (hf : rm.frames + 1 ≤ R.frames) (hl : W + (maxL + 11) + rm.locals ≤ R.locals) (eT : T.heap = h)
    {g : JFrame} (hg : g.method = m) (hsize : g.locals.size = c.maxLocals) (hlen : ∀ sig, parseMethodDescriptor y.desc = some sig → argsL.length = sig.parameters.length) (hstack : g.stack = argsL.reverse ++ .ref a :: rest) (hW : 2 * g.monitorRoom + (rest.map fun v => v.category).sum ≤ W) (hd : decode c.code g.pc = .ok (.invokespecial index, 3)) (hc : cells + rm.cells ≤ R.cells) (hs : slots + rm.slots ≤ R.slots) :
    ∃ v T' L, Stand p l e R s m args below meth c T' (locs ++ L) (cells + rm.cells) (slots + rm.slots) ∧ Q v T'.heap L ∧ ∀ target, Steps p.tables e below (T'.setTop { g with pc := g.pc + 3, stack := v.toList ++ rest }) target → Steps p.tables e below (T.setTop g) target := by
  obtain ⟨v, _, ⟨T', L', k', n'⟩, -, X', ⟨L, hQ, hl', hk', hn'⟩, st⟩ := X.specialBack hx hy1 hown (mvT hZ w1) (mvT hZ w2) (mvT hZ w4) hy (backOf (W := W) hM hZ w4 w3 hf hl) hg hsize (Steps.refl _) hlen hstack hW hd (fun _ _ => ⟨rfl, eT, hc, hs⟩)
  dsimp only [Pt.U, Pt.locs, Pt.cells, Pt.slots] at X' hl' hk' hn' st hQ
  subst hl' hk' hn'
  exact ⟨v, T', L, X', hQ, fun t k => st.trans k⟩
theorem virtQ (X : Stand p l e R s m args below meth c T locs cells slots) (hx : p.tables.exec = Jvm.exec) (hZ : Z.Warmed39 s.vm) {own : String} {index : Nat} {y : MethodName} {bytes : ByteArray} {maxL : Nat} {ret : Option FieldType} (hown : s.vm.findClass own = some m.cls)
    (w1 : (Cond.methodLink own index y).before a0 Z = true) (w2 : (Cond.instanceMethod y).before a0 Z = true) (w3 : (Cond.initialized y.cls).before a0 Z = true) (w4 : (Cond.code y bytes maxL ret).before a0 Z = true) (w5 : (Cond.declares y).before a0 Z = true) (w6 : (Cond.selects y.cls y y).before a0 Z = true) (hy : y.cls ≠ "java/lang/invoke/MethodHandle" ∧ y.cls ≠ "java/lang/invoke/VarHandle")
    {rm : Room} {a : Addr} (E : Exa Z h a y.cls) {argsL rest : List Value} {Q : Option Value → Heap → List Loc → Prop} (hM : Meets1 l y bytes maxL ret rm Z (.ref a :: argsL).toArray h Q) {W : Nat} (hf : rm.frames + 1 ≤ R.frames) (hl : W + (maxL + 11) + rm.locals ≤ R.locals) (eT : T.heap = h)
    {g : JFrame} (hg : g.method = m) (hsize : g.locals.size = c.maxLocals) (hlen : ∀ sig, parseMethodDescriptor y.desc = some sig → argsL.length = sig.parameters.length) (hstack : g.stack = argsL.reverse ++ .ref a :: rest) (hW : 2 * g.monitorRoom + (rest.map fun v => v.category).sum ≤ W) (hd : decode c.code g.pc = .ok (.invokevirtual index, 3)) (hc : cells + rm.cells ≤ R.cells) (hs : slots + rm.slots ≤ R.slots) :
    ∃ v T' L, Stand p l e R s m args below meth c T' (locs ++ L) (cells + rm.cells) (slots + rm.slots) ∧ Q v T'.heap L ∧ ∀ target, Steps p.tables e below (T'.setTop { g with pc := g.pc + 3, stack := v.toList ++ rest }) target → Steps p.tables e below (T.setTop g) target := by
  obtain ⟨cq, kq, qa, qb, qc⟩ := isOf hZ eT E
  obtain ⟨v, _, ⟨T', L', k', n'⟩, -, X', ⟨L, hQ, hl', hk', hn'⟩, st⟩ := X.virtualBack hx (y := y) (z := y) hown (mvT hZ w1) (mvT hZ w5) (notFace_of_selects (args := #[]) (mvT hZ w6)) (mvT hZ w6) (mvT hZ w2) hy (backOf (W := W) hM hZ w4 w3 hf hl) qa qc hg hsize (Steps.refl _) hlen hstack hW hd (fun _ _ => ⟨rfl, eT, hc, hs⟩)
  dsimp only [Pt.U, Pt.locs, Pt.cells, Pt.slots] at X' hl' hk' hn' st hQ
  subst hl' hk' hn'
  exact ⟨v, T', L, X', hQ, fun t k => st.trans k⟩
theorem privQ (X : Stand p l e R s m args below meth c T locs cells slots) (hx : p.tables.exec = Jvm.exec) (hZ : Z.Warmed39 s.vm) {own : String} {index : Nat} {y : MethodName} {bytes : ByteArray} {maxL : Nat} {ret : Option FieldType} (hown : s.vm.findClass own = some m.cls)
    (w1 : (Cond.methodLink own index y).before a0 Z = true) (w2 : (Cond.instanceMethod y).before a0 Z = true) (w3 : (Cond.initialized y.cls).before a0 Z = true) (w4 : (Cond.code y bytes maxL ret).before a0 Z = true) (w5 : (Cond.privateMethod y).before a0 Z = true) (w6 : (Cond.selects y.cls y y).before a0 Z = true) (hy : y.cls ≠ "java/lang/invoke/MethodHandle" ∧ y.cls ≠ "java/lang/invoke/VarHandle")
    {rm : Room} {a : Addr} {C : String} (E : Exa Z h a C) {argsL rest : List Value} {Q : Option Value → Heap → List Loc → Prop} (hM : Meets1 l y bytes maxL ret rm Z (.ref a :: argsL).toArray h Q) {W : Nat} (hf : rm.frames + 1 ≤ R.frames) (hl : W + (maxL + 11) + rm.locals ≤ R.locals) (eT : T.heap = h)
    {g : JFrame} (hg : g.method = m) (hsize : g.locals.size = c.maxLocals) (hlen : ∀ sig, parseMethodDescriptor y.desc = some sig → argsL.length = sig.parameters.length) (hstack : g.stack = argsL.reverse ++ .ref a :: rest) (hW : 2 * g.monitorRoom + (rest.map fun v => v.category).sum ≤ W) (hd : decode c.code g.pc = .ok (.invokevirtual index, 3)) (hc : cells + rm.cells ≤ R.cells) (hs : slots + rm.slots ≤ R.slots) :
    ∃ v T' L, Stand p l e R s m args below meth c T' (locs ++ L) (cells + rm.cells) (slots + rm.slots) ∧ Q v T'.heap L ∧ ∀ target, Steps p.tables e below (T'.setTop { g with pc := g.pc + 3, stack := v.toList ++ rest }) target → Steps p.tables e below (T.setTop g) target := by
  obtain ⟨cq, q1, q2⟩ := E.cell
  obtain ⟨v, _, ⟨T', L', k', n'⟩, -, X', ⟨L, hQ, hl', hk', hn'⟩, st⟩ := X.privateBack hx (y := y) hown (mvT hZ w1) (mvT hZ w2) (mvT hZ w6) (Cond.privateMethod_at (mvP hZ w5 (args := #[]))) (mvT hZ w4) hy (backOf (W := W) hM hZ w4 w3 hf hl) hg hsize (Steps.refl _) (a := a) (by rw [eT]; exact q1) q2 hlen hstack hW hd (fun _ _ => ⟨rfl, eT, hc, hs⟩)
  dsimp only [Pt.U, Pt.locs, Pt.cells, Pt.slots] at X' hl' hk' hn' st hQ
  subst hl' hk' hn'
  exact ⟨v, T', L, X', hQ, fun t k => st.trans k⟩
end Calls
theorem own_next {i : Int32} (h0 : ¬ i < 0) (h : i.toNatClampNeg < 1000) : ¬ (i + (1 : Int32)) < 0 ∧ (i + (1 : Int32)).toNatClampNeg = i.toNatClampNeg + 1 := by
  have h1 := nat_of h0
  have h2 : (i + 1).toInt = i.toInt + 1 := by have := c_iadd i 1; have := (i + 1).toInt_lt; have := (i + 1).le_toInt; simp only [Int32.reduceToInt] at *; omega
  have h3 : ¬ (i + 1) < 0 := by rw [Int32.lt_iff_toInt_lt, h2]; simp only [Int32.reduceToInt]; omega
  refine ⟨h3, ?_⟩
  have := nat_of h3
  omega
theorem d1_0 : decode method_3_code 0 = .ok (.iload_n 0, 1) := by decide +kernel
theorem d1_1 : decode method_3_code 1 = .ok (.sipush 148, 3) := by decide +kernel
theorem d1_4 : decode method_3_code 4 = .ok (.if_icmp .lt 14, 3) := by decide +kernel
theorem d1_18 : decode method_3_code 18 = .ok (.iconst 0, 1) := by decide +kernel
theorem d1_7 : decode method_3_code 7 = .ok (.iload_n 0, 1) := by decide +kernel
theorem d1_8 : decode method_3_code 8 = .ok (.sipush 156, 3) := by decide +kernel
theorem d1_11 : decode method_3_code 11 = .ok (.if_icmp .ge 7, 3) := by decide +kernel
theorem d1_14 : decode method_3_code 14 = .ok (.iconst 1, 1) := by decide +kernel
theorem d1_15 : decode method_3_code 15 = .ok (.goto 4, 3) := by decide +kernel
theorem d1_19 : decode method_3_code 19 = .ok (.ireturn, 1) := by decide +kernel
def fIn (u0 : Int32) : Int32 := (bi (¬ (u0 < (148 : Int32)) ∧ (u0 < (156 : Int32))))
theorem ef_rm1 (m : MethodId) (u0 : Int32) : entryFrame m #[(.int u0)] 1 = mkF m 0 #[.val (.int u0)] [] := by first | (simp [entryFrame, mkF, argsToLocals, Value.category]; done) | rfl
theorem pn_0 : plainName "com/example/stowage/stowage/core/TarChecksumPinLaw" = true := by first | (simp [plainName, overriddenIn]; done) | decide +kernel
def Q_rm1 (Z : State) (u0 : Int32)  (h0 : Heap) (n0 : Nat) (v : Option Value) (h : Heap) (L : List Loc) : Prop := v = some (Value.int (fIn u0)) ∧ Fr n0 L ∧ h = h0
set_option maxRecDepth 65536 in
set_option maxHeartbeats 40000000 in
theorem rm1 (l : Launch) (Z : State) (a0 : Array Value) (hw : ∀ d ∈ tables_1, d.before a0 Z = true) (ws : List Jvm.Cond) (u0 : Int32)  (h0 : Heap) (n0 : Nat) (Z0 : n0 ≤ h0.size)  :
    MetFree l (⟨"com/example/stowage/stowage/core/TarChecksumPinLaw", "inField", "(I)Z"⟩ : MethodName) (head1 (Jvm.Cond.code (⟨"com/example/stowage/stowage/core/TarChecksumPinLaw", "inField", "(I)Z"⟩ : MethodName) method_3_code 1 (some .boolean) :: ws) ({ frames := 0, cells := 0, slots := 0, locals := 0 } : Room)) (fun a U => a = #[(.int u0)] ∧ Z.Warmed39 U.vm ∧ U.heap = h0) (fun _ _ _ _ _ => True) (fun _ U o U' => ∃ v L, o = .returned v ∧ (Q_rm1 Z u0 h0 n0) v U'.heap L ∧ FrameEnd U o U' L ({ frames := 0, cells := 0, slots := 0, locals := 0 } : Room).cells ({ frames := 0, cells := 0, slots := 0, locals := 0 } : Room).slots) := by
  refine MetFree.of_bodySF (plainFor_of_name pn_0) hisR ?_
  intro p e s m args below meth c s₁ Bd hml0 hP hK
  obtain ⟨rfl, hZ, hh⟩ := hP
  have hx := Bd.exec
  have hby := Bd.bytes
  have hml : c.maxLocals = 1 := hml0
  have hown : s.vm.findClass "com/example/stowage/stowage/core/TarChecksumPinLaw" = some m.cls := findClass_of_methodNamed Bd.named
  have hnm := (name_of_methodNamed Bd.named Bd.method).1
  have X0 : Stand p l e ({ frames := 0, cells := 0, slots := 0, locals := 0 } : Room) s m #[(.int u0)] below meth c s₁ [] 0 0 := Stand.of_body Bd
  have e0 : s₁.heap = h0 := by rw [← hh, Bd.state]; rfl
  have N0 := Fr.nil n0
  show OFin p e below (ORet (Q_rm1 Z u0 h0 n0) s ({ frames := 0, cells := 0, slots := 0, locals := 0 } : Room).cells ({ frames := 0, cells := 0, slots := 0, locals := 0 } : Room).slots) (s₁.setTop (entryFrame m #[(.int u0)] 1))
  refine OFin.go (fun t k => castTop (ef_rm1 m u0) k) ?_
  show OFin p e below (ORet (Q_rm1 Z u0 h0 n0) s ({ frames := 0, cells := 0, slots := 0, locals := 0 } : Room).cells ({ frames := 0, cells := 0, slots := 0, locals := 0 } : Room).slots) (s₁.setTop (mkF m 0 #[.val (.int u0)] []))
  have S1 : ∀ t, Steps p.tables e below (s₁.setTop (mkF m 4 #[.val (.int u0)] [(.int (148 : Int32)), (.int u0)])) t → Steps p.tables e below (s₁.setTop (mkF m 0 #[.val (.int u0)] [])) t := by
    intro t k
    show Steps p.tables e below (s₁.setTop (mkF m 0 #[.val (.int u0)] [])) t
    refine XS.iloadN X0.here hx rfl (hb hby d1_0) rfl ?_
    show Steps p.tables e below (s₁.setTop (mkF m 1 #[.val (.int u0)] [(.int u0)])) t
    refine XS.sipush X0.here hx rfl (hb hby d1_1) ?_
    exact k
  refine OFin.go S1 ?_
  have J2 : ∀ t, Steps p.tables e below (s₁.setTop (mkF m 19 #[.val (.int u0)] [(.int (bi (¬ (u0 < (148 : Int32)) ∧ (u0 < (156 : Int32)))))])) t → Steps p.tables e below (s₁.setTop (mkF m 4 #[.val (.int u0)] [(.int (148 : Int32)), (.int u0)])) t := by
    intro t k
    show Steps p.tables e below (s₁.setTop (mkF m 4 #[.val (.int u0)] [(.int (148 : Int32)), (.int u0)])) t
    by_cases h3 : (u0 < (148 : Int32))
    · refine XS.icmpYes X0.here hx rfl (pc0 := 4) (pc' := 18) rfl (hb hby d1_4) rfl (tlt h3).1 (by decide) (by decide) ?_
      show Steps p.tables e below (s₁.setTop (mkF m 18 #[.val (.int u0)] [])) t
      refine XS.iconst X0.here hx rfl (hb hby d1_18) ?_
      show Steps p.tables e below (s₁.setTop (mkF m 19 #[.val (.int u0)] [(.int (0 : Int32))])) t
      exact (castTop (congrArg (fun z => (mkF m 19 #[.val (.int u0)] [(.int z)])) (bi_f (fun q => q.1 h3)).symm) k)
    · refine XS.icmpNo X0.here hx rfl (hb hby d1_4) rfl (flt h3).1 ?_
      show Steps p.tables e below (s₁.setTop (mkF m 7 #[.val (.int u0)] [])) t
      refine XS.iloadN X0.here hx rfl (hb hby d1_7) rfl ?_
      show Steps p.tables e below (s₁.setTop (mkF m 8 #[.val (.int u0)] [(.int u0)])) t
      refine XS.sipush X0.here hx rfl (hb hby d1_8) ?_
      show Steps p.tables e below (s₁.setTop (mkF m 11 #[.val (.int u0)] [(.int (156 : Int32)), (.int u0)])) t
      by_cases h4 : (u0 < (156 : Int32))
      · refine XS.icmpNo X0.here hx rfl (hb hby d1_11) rfl (tlt h4).2.1 ?_
        show Steps p.tables e below (s₁.setTop (mkF m 14 #[.val (.int u0)] [])) t
        refine XS.iconst X0.here hx rfl (hb hby d1_14) ?_
        show Steps p.tables e below (s₁.setTop (mkF m 15 #[.val (.int u0)] [(.int (1 : Int32))])) t
        refine XS.goto X0.here hx rfl (pc0 := 15) (pc' := 19) rfl (hb hby d1_15) (by decide) (by decide) ?_
        show Steps p.tables e below (s₁.setTop (mkF m 19 #[.val (.int u0)] [(.int (1 : Int32))])) t
        exact (castTop (congrArg (fun z => (mkF m 19 #[.val (.int u0)] [(.int z)])) (bi_t ⟨h3, h4⟩).symm) k)
      · refine XS.icmpYes X0.here hx rfl (pc0 := 11) (pc' := 18) rfl (hb hby d1_11) rfl (flt h4).2.1 (by decide) (by decide) ?_
        show Steps p.tables e below (s₁.setTop (mkF m 18 #[.val (.int u0)] [])) t
        refine XS.iconst X0.here hx rfl (hb hby d1_18) ?_
        show Steps p.tables e below (s₁.setTop (mkF m 19 #[.val (.int u0)] [(.int (0 : Int32))])) t
        exact (castTop (congrArg (fun z => (mkF m 19 #[.val (.int u0)] [(.int z)])) (bi_f (fun q => h4 q.2)).symm) k)
  refine OFin.go J2 ?_
  exact finZ X0 hx Bd.notSynchronized (t := .boolean) Bd.returns (by simp) (hb hby d1_19) (nar_bi _) (by decide) (by decide) (⟨congrArg (fun z => some (Value.int z)) (show (bi (¬ (u0 < (148 : Int32)) ∧ (u0 < (156 : Int32)))) = (bi (¬ (u0 < (148 : Int32)) ∧ (u0 < (156 : Int32)))) by rfl : (bi (¬ (u0 < (148 : Int32)) ∧ (u0 < (156 : Int32)))) = (fIn u0)), N0, e0⟩)
/-- the sum as the loop makes it: k turns from i on -/
def cs (f : Nat → Int32) : Nat → Int32 → Int64 → Int64
  | 0, _, acc => acc
  | k + 1, i, acc => cs f k (i + (1 : Int32)) (acc + (if (¬ (i < (148 : Int32)) ∧ (i < (156 : Int32))) then (32 : Int64) else (((f i.toNatClampNeg) &&& (255 : Int32)).toInt64)))
theorem ef_rm2 (m : MethodId) (o0 : Addr) : entryFrame m #[(.ref o0)] 5 = mkF m 0 #[.val (.ref o0), .unset, .unset, .unset, .unset] [] := by first | (simp [entryFrame, mkF, argsToLocals, Value.category]; done) | rfl
theorem pn_1 : plainName "com/example/stowage/stowage/core/Tar" = true := by first | (simp [plainName, overriddenIn]; done) | decide +kernel
def Q_rm2 (Z : State) (o0 : Addr) (f : Nat → Int32) (h0 : Heap) (n0 : Nat) (v : Option Value) (h : Heap) (L : List Loc) : Prop := v = some (.long (cs f 512 0 0)) ∧ Fr n0 L ∧ h = h0
theorem d2_0 : decode prog_84_method_5_code 0 = .ok (.lconst 0, 1) := by decide +kernel
theorem d2_1 : decode prog_84_method_5_code 1 = .ok (.lstore_n 1, 1) := by decide +kernel
theorem d2_2 : decode prog_84_method_5_code 2 = .ok (.iconst 0, 1) := by decide +kernel
theorem d2_3 : decode prog_84_method_5_code 3 = .ok (.istore_n 3, 1) := by decide +kernel
theorem d2_4 : decode prog_84_method_5_code 4 = .ok (.iload_n 3, 1) := by decide +kernel
theorem d2_5 : decode prog_84_method_5_code 5 = .ok (.sipush 512, 3) := by decide +kernel
theorem d2_8 : decode prog_84_method_5_code 8 = .ok (.if_icmp .ge 52, 3) := by decide +kernel
theorem d2_60 : decode prog_84_method_5_code 60 = .ok (.lload_n 1, 1) := by decide +kernel
theorem d2_61 : decode prog_84_method_5_code 61 = .ok (.lreturn, 1) := by decide +kernel
theorem d2_11 : decode prog_84_method_5_code 11 = .ok (.iload_n 3, 1) := by decide +kernel
theorem d2_12 : decode prog_84_method_5_code 12 = .ok (.sipush 148, 3) := by decide +kernel
theorem d2_15 : decode prog_84_method_5_code 15 = .ok (.if_icmp .lt 14, 3) := by decide +kernel
theorem d2_29 : decode prog_84_method_5_code 29 = .ok (.iconst 0, 1) := by decide +kernel
theorem d2_18 : decode prog_84_method_5_code 18 = .ok (.iload_n 3, 1) := by decide +kernel
theorem d2_19 : decode prog_84_method_5_code 19 = .ok (.sipush 156, 3) := by decide +kernel
theorem d2_22 : decode prog_84_method_5_code 22 = .ok (.if_icmp .ge 7, 3) := by decide +kernel
theorem d2_25 : decode prog_84_method_5_code 25 = .ok (.iconst 1, 1) := by decide +kernel
theorem d2_26 : decode prog_84_method_5_code 26 = .ok (.goto 4, 3) := by decide +kernel
theorem d2_30 : decode prog_84_method_5_code 30 = .ok (.istore 4, 2) := by decide +kernel
theorem d2_32 : decode prog_84_method_5_code 32 = .ok (.lload_n 1, 1) := by decide +kernel
theorem d2_33 : decode prog_84_method_5_code 33 = .ok (.iload 4, 2) := by decide +kernel
theorem d2_35 : decode prog_84_method_5_code 35 = .ok (.ifCond .eq 9, 3) := by decide +kernel
theorem d2_38 : decode prog_84_method_5_code 38 = .ok (.ldc2_w 35, 3) := by decide +kernel
theorem d2_41 : decode prog_84_method_5_code 41 = .ok (.goto 11, 3) := by decide +kernel
theorem d2_44 : decode prog_84_method_5_code 44 = .ok (.aload_n 0, 1) := by decide +kernel
theorem d2_45 : decode prog_84_method_5_code 45 = .ok (.iload_n 3, 1) := by decide +kernel
theorem d2_46 : decode prog_84_method_5_code 46 = .ok (.baload, 1) := by decide +kernel
theorem d2_47 : decode prog_84_method_5_code 47 = .ok (.sipush 255, 3) := by decide +kernel
theorem d2_50 : decode prog_84_method_5_code 50 = .ok (.iand, 1) := by decide +kernel
theorem d2_51 : decode prog_84_method_5_code 51 = .ok (.i2l, 1) := by decide +kernel
theorem d2_52 : decode prog_84_method_5_code 52 = .ok (.ladd, 1) := by decide +kernel
theorem d2_53 : decode prog_84_method_5_code 53 = .ok (.lstore_n 1, 1) := by decide +kernel
theorem d2_54 : decode prog_84_method_5_code 54 = .ok (.iinc 3 1, 3) := by decide +kernel
theorem d2_57 : decode prog_84_method_5_code 57 = .ok (.goto (-53), 3) := by decide +kernel
set_option maxRecDepth 65536 in
set_option maxHeartbeats 40000000 in
theorem rm2 (l : Launch) (Z : State) (a0 : Array Value) (hw : ∀ d ∈ tables_1, d.before a0 Z = true) (ws : List Jvm.Cond) (o0 : Addr) (f : Nat → Int32) (h0 : Heap) (n0 : Nat) (Z0 : n0 ≤ h0.size) (Va : Ara Z h0 o0 .byte 512 (fun i => .int (f i))) :
    MetFree l (⟨"com/example/stowage/stowage/core/Tar", "checksum", "([B)J"⟩ : MethodName) (head1 (Jvm.Cond.code (⟨"com/example/stowage/stowage/core/Tar", "checksum", "([B)J"⟩ : MethodName) prog_84_method_5_code 5 (some .long) :: ws) ({ frames := 0, cells := 0, slots := 0, locals := 0 } : Room)) (fun a U => a = #[(.ref o0)] ∧ Z.Warmed39 U.vm ∧ U.heap = h0) (fun _ _ _ _ _ => True) (fun _ U o U' => ∃ v L, o = .returned v ∧ (Q_rm2 Z o0 f h0 n0) v U'.heap L ∧ FrameEnd U o U' L ({ frames := 0, cells := 0, slots := 0, locals := 0 } : Room).cells ({ frames := 0, cells := 0, slots := 0, locals := 0 } : Room).slots) := by
  refine MetFree.of_bodySF (plainFor_of_name pn_1) hisR ?_
  intro p e s m args below meth c s₁ Bd hml0 hP hK
  obtain ⟨rfl, hZ, hh⟩ := hP
  have hx := Bd.exec
  have hby := Bd.bytes
  have hml : c.maxLocals = 5 := hml0
  have hown : s.vm.findClass "com/example/stowage/stowage/core/Tar" = some m.cls := findClass_of_methodNamed Bd.named
  have hnm := (name_of_methodNamed Bd.named Bd.method).1
  have X0 : Stand p l e ({ frames := 0, cells := 0, slots := 0, locals := 0 } : Room) s m #[(.ref o0)] below meth c s₁ [] 0 0 := Stand.of_body Bd
  have e0 : s₁.heap = h0 := by rw [← hh, Bd.state]; rfl
  have N0 := Fr.nil n0
  show OFin p e below (ORet (Q_rm2 Z o0 f h0 n0) s ({ frames := 0, cells := 0, slots := 0, locals := 0 } : Room).cells ({ frames := 0, cells := 0, slots := 0, locals := 0 } : Room).slots) (s₁.setTop (entryFrame m #[(.ref o0)] 5))
  refine OFin.go (fun t k => castTop (ef_rm2 m o0) k) ?_
  show OFin p e below (ORet (Q_rm2 Z o0 f h0 n0) s ({ frames := 0, cells := 0, slots := 0, locals := 0 } : Room).cells ({ frames := 0, cells := 0, slots := 0, locals := 0 } : Room).slots) (s₁.setTop (mkF m 0 #[.val (.ref o0), .unset, .unset, .unset, .unset] []))
  have S1 : ∀ t, Steps p.tables e below (s₁.setTop (mkF m 4 #[.val (.ref o0), .val (.long (0 : Int64)), .second, .val (.int (0 : Int32)), .unset] [])) t → Steps p.tables e below (s₁.setTop (mkF m 0 #[.val (.ref o0), .unset, .unset, .unset, .unset] [])) t := by
    intro t k
    show Steps p.tables e below (s₁.setTop (mkF m 0 #[.val (.ref o0), .unset, .unset, .unset, .unset] [])) t
    refine XS.lconst X0.here hx rfl (hb hby d2_0) ?_
    show Steps p.tables e below (s₁.setTop (mkF m 1 #[.val (.ref o0), .unset, .unset, .unset, .unset] [(.long (0 : Int64))])) t
    refine XS.lstoreN X0.here hx rfl (hb hby d2_1) rfl (l' := #[.val (.ref o0), .val (.long (0 : Int64)), .second, .unset, .unset]) rfl ?_
    show Steps p.tables e below (s₁.setTop (mkF m 2 #[.val (.ref o0), .val (.long (0 : Int64)), .second, .unset, .unset] [])) t
    refine XS.iconst X0.here hx rfl (hb hby d2_2) ?_
    show Steps p.tables e below (s₁.setTop (mkF m 3 #[.val (.ref o0), .val (.long (0 : Int64)), .second, .unset, .unset] [(.int (0 : Int32))])) t
    refine XS.istoreN X0.here hx rfl (hb hby d2_3) rfl (l' := #[.val (.ref o0), .val (.long (0 : Int64)), .second, .val (.int (0 : Int32)), .unset]) rfl ?_
    exact k
  refine OFin.go S1 ?_
  have LOOP2 : ∀ (k : Nat) (acc : Int64) (i : Int32) (s4 : Slot) (hs4 : One s4), ¬ i < 0 ∧ i.toNatClampNeg + k = 512 ∧ cs f k i acc = cs f 512 0 0 → OFin p e below (ORet (Q_rm2 Z o0 f h0 n0) s ({ frames := 0, cells := 0, slots := 0, locals := 0 } : Room).cells ({ frames := 0, cells := 0, slots := 0, locals := 0 } : Room).slots) (s₁.setTop (mkF m 4 #[.val (.ref o0), .val (.long acc), .second, .val (.int i), s4] [])) := by
    intro k
    induction k with
    | zero =>
      intro acc i s4 hs4  hinv
      have S3 : ∀ t, Steps p.tables e below (s₁.setTop (mkF m 8 #[.val (.ref o0), .val (.long acc), .second, .val (.int i), s4] [(.int (512 : Int32)), (.int i)])) t → Steps p.tables e below (s₁.setTop (mkF m 4 #[.val (.ref o0), .val (.long acc), .second, .val (.int i), s4] [])) t := by
        intro t k
        show Steps p.tables e below (s₁.setTop (mkF m 4 #[.val (.ref o0), .val (.long acc), .second, .val (.int i), s4] [])) t
        refine XS.iloadN X0.here hx rfl (hb hby d2_4) rfl ?_
        show Steps p.tables e below (s₁.setTop (mkF m 5 #[.val (.ref o0), .val (.long acc), .second, .val (.int i), s4] [(.int i)])) t
        refine XS.sipush X0.here hx rfl (hb hby d2_5) ?_
        exact k
      refine OFin.go S3 ?_
      have S4 : ∀ t, Steps p.tables e below (s₁.setTop (mkF m 60 #[.val (.ref o0), .val (.long acc), .second, .val (.int i), s4] [])) t → Steps p.tables e below (s₁.setTop (mkF m 8 #[.val (.ref o0), .val (.long acc), .second, .val (.int i), s4] [(.int (512 : Int32)), (.int i)])) t := by
        intro t k
        show Steps p.tables e below (s₁.setTop (mkF m 8 #[.val (.ref o0), .val (.long acc), .second, .val (.int i), s4] [(.int (512 : Int32)), (.int i)])) t
        refine XS.icmpYes X0.here hx rfl (pc0 := 8) (pc' := 60) rfl (hb hby d2_8) rfl (flt (by have h1 := nat_of hinv.1; rw [Int32.lt_iff_toInt_lt]; simp only [Int32.reduceToInt]; omega)).2.1 (by decide) (by decide) ?_
        exact k
      refine OFin.go S4 ?_
      have S5 : ∀ t, Steps p.tables e below (s₁.setTop (mkF m 61 #[.val (.ref o0), .val (.long acc), .second, .val (.int i), s4] [(.long acc)])) t → Steps p.tables e below (s₁.setTop (mkF m 60 #[.val (.ref o0), .val (.long acc), .second, .val (.int i), s4] [])) t := by
        intro t k
        show Steps p.tables e below (s₁.setTop (mkF m 60 #[.val (.ref o0), .val (.long acc), .second, .val (.int i), s4] [])) t
        refine XS.lloadN X0.here hx rfl (hb hby d2_60) rfl ?_
        exact k
      refine OFin.go S5 ?_
      exact finJ X0 hx Bd.notSynchronized Bd.returns (hb hby d2_61) (by decide) (by decide) (⟨congrArg (fun z => some (Value.long z)) (show acc = cs f 512 0 0 from hinv.2.2), N0, e0⟩)
    | succ k ih =>
      intro acc i s4 hs4  hinv
      have S6 : ∀ t, Steps p.tables e below (s₁.setTop (mkF m 8 #[.val (.ref o0), .val (.long acc), .second, .val (.int i), s4] [(.int (512 : Int32)), (.int i)])) t → Steps p.tables e below (s₁.setTop (mkF m 4 #[.val (.ref o0), .val (.long acc), .second, .val (.int i), s4] [])) t := by
        intro t k
        show Steps p.tables e below (s₁.setTop (mkF m 4 #[.val (.ref o0), .val (.long acc), .second, .val (.int i), s4] [])) t
        refine XS.iloadN X0.here hx rfl (hb hby d2_4) rfl ?_
        show Steps p.tables e below (s₁.setTop (mkF m 5 #[.val (.ref o0), .val (.long acc), .second, .val (.int i), s4] [(.int i)])) t
        refine XS.sipush X0.here hx rfl (hb hby d2_5) ?_
        exact k
      refine OFin.go S6 ?_
      have S7 : ∀ t, Steps p.tables e below (s₁.setTop (mkF m 11 #[.val (.ref o0), .val (.long acc), .second, .val (.int i), s4] [])) t → Steps p.tables e below (s₁.setTop (mkF m 8 #[.val (.ref o0), .val (.long acc), .second, .val (.int i), s4] [(.int (512 : Int32)), (.int i)])) t := by
        intro t k
        show Steps p.tables e below (s₁.setTop (mkF m 8 #[.val (.ref o0), .val (.long acc), .second, .val (.int i), s4] [(.int (512 : Int32)), (.int i)])) t
        refine XS.icmpNo X0.here hx rfl (hb hby d2_8) rfl (tlt (by have h1 := nat_of hinv.1; rw [Int32.lt_iff_toInt_lt]; simp only [Int32.reduceToInt]; omega)).2.1 ?_
        exact k
      refine OFin.go S7 ?_
      have S8 : ∀ t, Steps p.tables e below (s₁.setTop (mkF m 15 #[.val (.ref o0), .val (.long acc), .second, .val (.int i), s4] [(.int (148 : Int32)), (.int i)])) t → Steps p.tables e below (s₁.setTop (mkF m 11 #[.val (.ref o0), .val (.long acc), .second, .val (.int i), s4] [])) t := by
        intro t k
        show Steps p.tables e below (s₁.setTop (mkF m 11 #[.val (.ref o0), .val (.long acc), .second, .val (.int i), s4] [])) t
        refine XS.iloadN X0.here hx rfl (hb hby d2_11) rfl ?_
        show Steps p.tables e below (s₁.setTop (mkF m 12 #[.val (.ref o0), .val (.long acc), .second, .val (.int i), s4] [(.int i)])) t
        refine XS.sipush X0.here hx rfl (hb hby d2_12) ?_
        exact k
      refine OFin.go S8 ?_
      have J9 : ∀ t, Steps p.tables e below (s₁.setTop (mkF m 30 #[.val (.ref o0), .val (.long acc), .second, .val (.int i), s4] [(.int (bi (¬ (i < (148 : Int32)) ∧ (i < (156 : Int32)))))])) t → Steps p.tables e below (s₁.setTop (mkF m 15 #[.val (.ref o0), .val (.long acc), .second, .val (.int i), s4] [(.int (148 : Int32)), (.int i)])) t := by
        intro t k
        show Steps p.tables e below (s₁.setTop (mkF m 15 #[.val (.ref o0), .val (.long acc), .second, .val (.int i), s4] [(.int (148 : Int32)), (.int i)])) t
        by_cases h10 : (i < (148 : Int32))
        · refine XS.icmpYes X0.here hx rfl (pc0 := 15) (pc' := 29) rfl (hb hby d2_15) rfl (tlt h10).1 (by decide) (by decide) ?_
          show Steps p.tables e below (s₁.setTop (mkF m 29 #[.val (.ref o0), .val (.long acc), .second, .val (.int i), s4] [])) t
          refine XS.iconst X0.here hx rfl (hb hby d2_29) ?_
          show Steps p.tables e below (s₁.setTop (mkF m 30 #[.val (.ref o0), .val (.long acc), .second, .val (.int i), s4] [(.int (0 : Int32))])) t
          exact (castTop (congrArg (fun z => (mkF m 30 #[.val (.ref o0), .val (.long acc), .second, .val (.int i), s4] [(.int z)])) (bi_f (fun q => q.1 h10)).symm) k)
        · refine XS.icmpNo X0.here hx rfl (hb hby d2_15) rfl (flt h10).1 ?_
          show Steps p.tables e below (s₁.setTop (mkF m 18 #[.val (.ref o0), .val (.long acc), .second, .val (.int i), s4] [])) t
          refine XS.iloadN X0.here hx rfl (hb hby d2_18) rfl ?_
          show Steps p.tables e below (s₁.setTop (mkF m 19 #[.val (.ref o0), .val (.long acc), .second, .val (.int i), s4] [(.int i)])) t
          refine XS.sipush X0.here hx rfl (hb hby d2_19) ?_
          show Steps p.tables e below (s₁.setTop (mkF m 22 #[.val (.ref o0), .val (.long acc), .second, .val (.int i), s4] [(.int (156 : Int32)), (.int i)])) t
          by_cases h11 : (i < (156 : Int32))
          · refine XS.icmpNo X0.here hx rfl (hb hby d2_22) rfl (tlt h11).2.1 ?_
            show Steps p.tables e below (s₁.setTop (mkF m 25 #[.val (.ref o0), .val (.long acc), .second, .val (.int i), s4] [])) t
            refine XS.iconst X0.here hx rfl (hb hby d2_25) ?_
            show Steps p.tables e below (s₁.setTop (mkF m 26 #[.val (.ref o0), .val (.long acc), .second, .val (.int i), s4] [(.int (1 : Int32))])) t
            refine XS.goto X0.here hx rfl (pc0 := 26) (pc' := 30) rfl (hb hby d2_26) (by decide) (by decide) ?_
            show Steps p.tables e below (s₁.setTop (mkF m 30 #[.val (.ref o0), .val (.long acc), .second, .val (.int i), s4] [(.int (1 : Int32))])) t
            exact (castTop (congrArg (fun z => (mkF m 30 #[.val (.ref o0), .val (.long acc), .second, .val (.int i), s4] [(.int z)])) (bi_t ⟨h10, h11⟩).symm) k)
          · refine XS.icmpYes X0.here hx rfl (pc0 := 22) (pc' := 29) rfl (hb hby d2_22) rfl (flt h11).2.1 (by decide) (by decide) ?_
            show Steps p.tables e below (s₁.setTop (mkF m 29 #[.val (.ref o0), .val (.long acc), .second, .val (.int i), s4] [])) t
            refine XS.iconst X0.here hx rfl (hb hby d2_29) ?_
            show Steps p.tables e below (s₁.setTop (mkF m 30 #[.val (.ref o0), .val (.long acc), .second, .val (.int i), s4] [(.int (0 : Int32))])) t
            exact (castTop (congrArg (fun z => (mkF m 30 #[.val (.ref o0), .val (.long acc), .second, .val (.int i), s4] [(.int z)])) (bi_f (fun q => h11 q.2)).symm) k)
      refine OFin.go J9 ?_
      have S12 : ∀ t, Steps p.tables e below (s₁.setTop (mkF m 35 #[.val (.ref o0), .val (.long acc), .second, .val (.int i), .val (.int (bi (¬ (i < (148 : Int32)) ∧ (i < (156 : Int32)))))] [(.int (bi (¬ (i < (148 : Int32)) ∧ (i < (156 : Int32))))), (.long acc)])) t → Steps p.tables e below (s₁.setTop (mkF m 30 #[.val (.ref o0), .val (.long acc), .second, .val (.int i), s4] [(.int (bi (¬ (i < (148 : Int32)) ∧ (i < (156 : Int32)))))])) t := by
        intro t k
        show Steps p.tables e below (s₁.setTop (mkF m 30 #[.val (.ref o0), .val (.long acc), .second, .val (.int i), s4] [(.int (bi (¬ (i < (148 : Int32)) ∧ (i < (156 : Int32)))))])) t
        refine XS.istore X0.here hx rfl (hb hby d2_30) rfl (l' := #[.val (.ref o0), .val (.long acc), .second, .val (.int i), .val (.int (bi (¬ (i < (148 : Int32)) ∧ (i < (156 : Int32)))))]) (Jvm.Free.XS.store1 rfl hs4 rfl) ?_
        show Steps p.tables e below (s₁.setTop (mkF m 32 #[.val (.ref o0), .val (.long acc), .second, .val (.int i), .val (.int (bi (¬ (i < (148 : Int32)) ∧ (i < (156 : Int32)))))] [])) t
        refine XS.lloadN X0.here hx rfl (hb hby d2_32) rfl ?_
        show Steps p.tables e below (s₁.setTop (mkF m 33 #[.val (.ref o0), .val (.long acc), .second, .val (.int i), .val (.int (bi (¬ (i < (148 : Int32)) ∧ (i < (156 : Int32)))))] [(.long acc)])) t
        refine XS.iload X0.here hx rfl (hb hby d2_33) rfl ?_
        exact k
      refine OFin.go S12 ?_
      have J13 : ∀ t, Steps p.tables e below (s₁.setTop (mkF m 52 #[.val (.ref o0), .val (.long acc), .second, .val (.int i), .val (.int (bi (¬ (i < (148 : Int32)) ∧ (i < (156 : Int32)))))] [(.long (if (¬ (i < (148 : Int32)) ∧ (i < (156 : Int32))) then (32 : Int64) else (((f i.toNatClampNeg) &&& (255 : Int32)).toInt64))), (.long acc)])) t → Steps p.tables e below (s₁.setTop (mkF m 35 #[.val (.ref o0), .val (.long acc), .second, .val (.int i), .val (.int (bi (¬ (i < (148 : Int32)) ∧ (i < (156 : Int32)))))] [(.int (bi (¬ (i < (148 : Int32)) ∧ (i < (156 : Int32))))), (.long acc)])) t := by
        intro t k
        show Steps p.tables e below (s₁.setTop (mkF m 35 #[.val (.ref o0), .val (.long acc), .second, .val (.int i), .val (.int (bi (¬ (i < (148 : Int32)) ∧ (i < (156 : Int32)))))] [(.int (bi (¬ (i < (148 : Int32)) ∧ (i < (156 : Int32))))), (.long acc)])) t
        by_cases h14 : (¬ (i < (148 : Int32)) ∧ (i < (156 : Int32)))
        · refine XS.ifNo X0.here hx rfl (hb hby d2_35) rfl (bi_eq_f h14) ?_
          show Steps p.tables e below (s₁.setTop (mkF m 38 #[.val (.ref o0), .val (.long acc), .second, .val (.int i), .val (.int (bi (¬ (i < (148 : Int32)) ∧ (i < (156 : Int32)))))] [(.long acc)])) t
          refine X0.ldc2Long hx hown (mvT hZ (hw _ (List.mem_of_getElem? (i := 11) rfl))) (g := (mkF m 38 #[.val (.ref o0), .val (.long acc), .second, .val (.int i), .val (.int (bi (¬ (i < (148 : Int32)) ∧ (i < (156 : Int32)))))] [(.long acc)])) rfl (hb hby d2_38) _ ?_
          show Steps p.tables e below (s₁.setTop (mkF m 41 #[.val (.ref o0), .val (.long acc), .second, .val (.int i), .val (.int (bi (¬ (i < (148 : Int32)) ∧ (i < (156 : Int32)))))] [(.long (32 : Int64)), (.long acc)])) t
          refine XS.goto X0.here hx rfl (pc0 := 41) (pc' := 52) rfl (hb hby d2_41) (by decide) (by decide) ?_
          show Steps p.tables e below (s₁.setTop (mkF m 52 #[.val (.ref o0), .val (.long acc), .second, .val (.int i), .val (.int (bi (¬ (i < (148 : Int32)) ∧ (i < (156 : Int32)))))] [(.long (32 : Int64)), (.long acc)])) t
          exact (castTop (congrArg (fun z => (mkF m 52 #[.val (.ref o0), .val (.long acc), .second, .val (.int i), .val (.int (bi (¬ (i < (148 : Int32)) ∧ (i < (156 : Int32)))))] [(.long z), (.long acc)])) (show (32 : Int64) = (if (¬ (i < (148 : Int32)) ∧ (i < (156 : Int32))) then (32 : Int64) else (((f i.toNatClampNeg) &&& (255 : Int32)).toInt64)) by rw [if_pos h14])) k)
        · refine XS.ifYes X0.here hx rfl (pc0 := 35) (pc' := 44) rfl (hb hby d2_35) rfl (bi_eq_t h14) (by decide) (by decide) ?_
          show Steps p.tables e below (s₁.setTop (mkF m 44 #[.val (.ref o0), .val (.long acc), .second, .val (.int i), .val (.int (bi (¬ (i < (148 : Int32)) ∧ (i < (156 : Int32)))))] [(.long acc)])) t
          refine XS.aloadN X0.here hx rfl (hb hby d2_44) rfl rfl ?_
          show Steps p.tables e below (s₁.setTop (mkF m 45 #[.val (.ref o0), .val (.long acc), .second, .val (.int i), .val (.int (bi (¬ (i < (148 : Int32)) ∧ (i < (156 : Int32)))))] [(.ref o0), (.long acc)])) t
          refine XS.iloadN X0.here hx rfl (hb hby d2_45) rfl ?_
          show Steps p.tables e below (s₁.setTop (mkF m 46 #[.val (.ref o0), .val (.long acc), .second, .val (.int i), .val (.int (bi (¬ (i < (148 : Int32)) ∧ (i < (156 : Int32)))))] [(.int i), (.ref o0), (.long acc)])) t
          refine rdB X0 hx hZ e0 Va (i := i.toNatClampNeg) hinv.1 rfl (by omega) (x := (.int (f i.toNatClampNeg))) rfl (g := (mkF m 46 #[.val (.ref o0), .val (.long acc), .second, .val (.int i), .val (.int (bi (¬ (i < (148 : Int32)) ∧ (i < (156 : Int32)))))] [(.int i), (.ref o0), (.long acc)])) rfl rfl (hb hby d2_46) ?_
          show Steps p.tables e below (s₁.setTop (mkF m 47 #[.val (.ref o0), .val (.long acc), .second, .val (.int i), .val (.int (bi (¬ (i < (148 : Int32)) ∧ (i < (156 : Int32)))))] [(.int (f i.toNatClampNeg)), (.long acc)])) t
          refine XS.sipush X0.here hx rfl (hb hby d2_47) ?_
          show Steps p.tables e below (s₁.setTop (mkF m 50 #[.val (.ref o0), .val (.long acc), .second, .val (.int i), .val (.int (bi (¬ (i < (148 : Int32)) ∧ (i < (156 : Int32)))))] [(.int (255 : Int32)), (.int (f i.toNatClampNeg)), (.long acc)])) t
          refine XS.iand X0.here hx rfl (hb hby d2_50) rfl ?_
          show Steps p.tables e below (s₁.setTop (mkF m 51 #[.val (.ref o0), .val (.long acc), .second, .val (.int i), .val (.int (bi (¬ (i < (148 : Int32)) ∧ (i < (156 : Int32)))))] [(.int ((f i.toNatClampNeg) &&& (255 : Int32))), (.long acc)])) t
          refine XS.i2l X0.here hx rfl (hb hby d2_51) rfl ?_
          show Steps p.tables e below (s₁.setTop (mkF m 52 #[.val (.ref o0), .val (.long acc), .second, .val (.int i), .val (.int (bi (¬ (i < (148 : Int32)) ∧ (i < (156 : Int32)))))] [(.long (((f i.toNatClampNeg) &&& (255 : Int32)).toInt64)), (.long acc)])) t
          exact (castTop (congrArg (fun z => (mkF m 52 #[.val (.ref o0), .val (.long acc), .second, .val (.int i), .val (.int (bi (¬ (i < (148 : Int32)) ∧ (i < (156 : Int32)))))] [(.long z), (.long acc)])) (show (((f i.toNatClampNeg) &&& (255 : Int32)).toInt64) = (if (¬ (i < (148 : Int32)) ∧ (i < (156 : Int32))) then (32 : Int64) else (((f i.toNatClampNeg) &&& (255 : Int32)).toInt64)) by rw [if_neg h14])) k)
      refine OFin.go J13 ?_
      have S15 : ∀ t, Steps p.tables e below (s₁.setTop (mkF m 4 #[.val (.ref o0), .val (.long (acc + (if (¬ (i < (148 : Int32)) ∧ (i < (156 : Int32))) then (32 : Int64) else (((f i.toNatClampNeg) &&& (255 : Int32)).toInt64)))), .second, .val (.int (i + (1 : Int32))), .val (.int (bi (¬ (i < (148 : Int32)) ∧ (i < (156 : Int32)))))] [])) t → Steps p.tables e below (s₁.setTop (mkF m 52 #[.val (.ref o0), .val (.long acc), .second, .val (.int i), .val (.int (bi (¬ (i < (148 : Int32)) ∧ (i < (156 : Int32)))))] [(.long (if (¬ (i < (148 : Int32)) ∧ (i < (156 : Int32))) then (32 : Int64) else (((f i.toNatClampNeg) &&& (255 : Int32)).toInt64))), (.long acc)])) t := by
        intro t k
        show Steps p.tables e below (s₁.setTop (mkF m 52 #[.val (.ref o0), .val (.long acc), .second, .val (.int i), .val (.int (bi (¬ (i < (148 : Int32)) ∧ (i < (156 : Int32)))))] [(.long (if (¬ (i < (148 : Int32)) ∧ (i < (156 : Int32))) then (32 : Int64) else (((f i.toNatClampNeg) &&& (255 : Int32)).toInt64))), (.long acc)])) t
        refine XS.ladd X0.here hx rfl (hb hby d2_52) rfl ?_
        show Steps p.tables e below (s₁.setTop (mkF m 53 #[.val (.ref o0), .val (.long acc), .second, .val (.int i), .val (.int (bi (¬ (i < (148 : Int32)) ∧ (i < (156 : Int32)))))] [(.long (acc + (if (¬ (i < (148 : Int32)) ∧ (i < (156 : Int32))) then (32 : Int64) else (((f i.toNatClampNeg) &&& (255 : Int32)).toInt64))))])) t
        refine XS.lstoreN X0.here hx rfl (hb hby d2_53) rfl (l' := #[.val (.ref o0), .val (.long (acc + (if (¬ (i < (148 : Int32)) ∧ (i < (156 : Int32))) then (32 : Int64) else (((f i.toNatClampNeg) &&& (255 : Int32)).toInt64)))), .second, .val (.int i), .val (.int (bi (¬ (i < (148 : Int32)) ∧ (i < (156 : Int32)))))]) rfl ?_
        show Steps p.tables e below (s₁.setTop (mkF m 54 #[.val (.ref o0), .val (.long (acc + (if (¬ (i < (148 : Int32)) ∧ (i < (156 : Int32))) then (32 : Int64) else (((f i.toNatClampNeg) &&& (255 : Int32)).toInt64)))), .second, .val (.int i), .val (.int (bi (¬ (i < (148 : Int32)) ∧ (i < (156 : Int32)))))] [])) t
        refine XS.iinc X0.here hx rfl (hb hby d2_54) rfl (l' := #[.val (.ref o0), .val (.long (acc + (if (¬ (i < (148 : Int32)) ∧ (i < (156 : Int32))) then (32 : Int64) else (((f i.toNatClampNeg) &&& (255 : Int32)).toInt64)))), .second, .val (.int (i + (1 : Int32))), .val (.int (bi (¬ (i < (148 : Int32)) ∧ (i < (156 : Int32)))))]) rfl ?_
        show Steps p.tables e below (s₁.setTop (mkF m 57 #[.val (.ref o0), .val (.long (acc + (if (¬ (i < (148 : Int32)) ∧ (i < (156 : Int32))) then (32 : Int64) else (((f i.toNatClampNeg) &&& (255 : Int32)).toInt64)))), .second, .val (.int (i + (1 : Int32))), .val (.int (bi (¬ (i < (148 : Int32)) ∧ (i < (156 : Int32)))))] [])) t
        refine XS.goto X0.here hx rfl (pc0 := 57) (pc' := 4) rfl (hb hby d2_57) (by decide) (by decide) ?_
        exact k
      refine OFin.go S15 ?_
      exact ih  (acc + (if (¬ (i < (148 : Int32)) ∧ (i < (156 : Int32))) then (32 : Int64) else (((f i.toNatClampNeg) &&& (255 : Int32)).toInt64))) (i + (1 : Int32)) (.val (.int (bi (¬ (i < (148 : Int32)) ∧ (i < (156 : Int32)))))) (One.val rfl) ⟨(own_next hinv.1 (by omega)).1, by rw [(own_next hinv.1 (by omega)).2]; omega, hinv.2.2⟩ 
  exact LOOP2 512 (0 : Int64) (0 : Int32) .unset One.u ⟨by decide, by decide, rfl⟩
theorem own_b (y : Int32) : y.toInt8.toInt32 &&& (255 : Int32) = y &&& (255 : Int32) := by
  apply Int32.toInt_inj.mp
  rw [c_mask _ 255 8 (by decide) (by decide), c_mask _ 255 8 (by decide) (by decide)]
  have := (c_i2b y).1
  omega
def own_f (xi xj xk : Nat) (x y z : Int32) : Nat → Int32 := upd (upd (upd (fun _ => (0 : Int32)) xi x) xj y) xk z
theorem own_fv (xi xj xk : Nat) (x y z : Int32) (i : Nat) : upd (upd (upd (fun _ => defaultValue .byte) xi (.int x)) xj (.int y)) xk (.int z) i = .int (own_f xi xj xk x y z i) := by
  unfold own_f upd; dsimp only; split <;> (try split) <;> (try split) <;> rfl
theorem own_r {n z : Int32} (h : z = ((n &&& (2147483647 : Int32)) % (512 : Int32))) : ¬ z < 0 ∧ z.toNatClampNeg < 512 := by
  have h1 := (c_iremV (n &&& 2147483647) 512).1 (c_and n 2147483647 (by decide)).1 (by decide)
  have h3 := h1.1; have h4 := h1.2.1
  rw [← h] at h3 h4
  simp only [Int32.reduceToInt] at h4
  have h0 : ¬ z < 0 := by rw [Int32.lt_iff_toInt_lt]; simp only [Int32.reduceToInt]; omega
  have := nat_of h0
  exact ⟨h0, by omega⟩
def inF (n : Nat) : Prop := 148 ≤ n ∧ n < 156
def tm (f : Nat → Int32) (n : Nat) : Int64 := if 148 ≤ n ∧ n < 156 then 32 else (f n &&& 255).toInt64
def sm (f : Nat → Int32) : Nat → Int64
  | 0 => 0
  | n + 1 => sm f n + tm f n
theorem own_fld {i : Int32} (h : ¬ i < 0) : (¬ (i < (148 : Int32)) ∧ (i < (156 : Int32))) ↔ (148 ≤ i.toNatClampNeg ∧ i.toNatClampNeg < 156) := by
  have := nat_of h
  simp only [Int32.lt_iff_toInt_lt, Int32.reduceToInt]
  omega
theorem own_tm (f : Nat → Int32) {i : Int32} (h : ¬ i < 0) : (if (¬ (i < (148 : Int32)) ∧ (i < (156 : Int32))) then (32 : Int64) else (((f i.toNatClampNeg) &&& (255 : Int32)).toInt64)) = tm f i.toNatClampNeg := by
  unfold tm
  by_cases q : (¬ (i < (148 : Int32)) ∧ (i < (156 : Int32)))
  · rw [if_pos q, if_pos ((own_fld h).mp q)]
  · rw [if_neg q, if_neg (fun z => q ((own_fld h).mpr z))]
theorem own_cs (f : Nat → Int32) : ∀ (k : Nat) (i : Int32) (acc : Int64), ¬ i < 0 → i.toNatClampNeg + k ≤ 512 → cs f k i acc + sm f i.toNatClampNeg = acc + sm f (i.toNatClampNeg + k) := by
  intro k
  induction k with
  | zero => intro i acc _ _; rfl
  | succ k ih =>
    intro i acc h0 h
    obtain ⟨n1, n2⟩ := own_next h0 (by omega)
    have := ih (i + 1) (acc + tm f i.toNatClampNeg) n1 (by omega)
    rw [n2] at this
    show cs f k (i + 1) (acc + _) + _ = _
    rw [own_tm f h0, show i.toNatClampNeg + (k + 1) = i.toNatClampNeg + 1 + k by omega]
    generalize cs f k (i + 1) (acc + tm f i.toNatClampNeg) = A at *
    have e : sm f (i.toNatClampNeg + 1) = sm f i.toNatClampNeg + tm f i.toNatClampNeg := rfl
    rw [e] at this
    generalize sm f (i.toNatClampNeg + 1 + k) = B at *
    generalize tm f i.toNatClampNeg = T at *
    generalize sm f i.toNatClampNeg = C at *
    grind
theorem own_smu (f : Nat → Int32) (a : Nat) (v : Int32) : ∀ n, sm (upd f a v) n = sm f n + (if a < n ∧ ¬ (148 ≤ a ∧ a < 156) then (v &&& 255).toInt64 - (f a &&& 255).toInt64 else 0) := by
  intro n
  induction n with
  | zero => simp [sm]
  | succ n ih =>
    show sm (upd f a v) n + tm (upd f a v) n = sm f n + tm f n + _
    rw [ih]
    unfold tm
    by_cases q : n = a
    · subst q
      rw [upd_hit]
      by_cases r : 148 ≤ n ∧ n < 156
      · simp [r]
      · simp [r]; grind
    · rw [upd_miss q]
      by_cases r : a < n
      · have : a < n + 1 := by omega
        simp only [r, this, true_and]
        grind
      · have : ¬ a < n + 1 := by omega
        simp only [r, this, false_and, if_false]
        grind
theorem own_sm0 : sm (fun _ => 0) 512 = 256 := by decide +kernel
theorem own_in {x : Int32} (h : ¬ x < 0) : (fIn x = 0) ↔ ¬ (148 ≤ x.toNatClampNeg ∧ x.toNatClampNeg < 156) := by
  unfold fIn bi
  by_cases q : (¬ (x < (148 : Int32)) ∧ (x < (156 : Int32)))
  · rw [if_pos q]; simp [(own_fld h).mp q]
  · rw [if_neg q]; have := fun z => q ((own_fld h).mpr z); simpa using this
theorem own_eq {x y : Int32} (hx : ¬ x < 0) (hy : ¬ y < 0) : x = y ↔ x.toNatClampNeg = y.toNatClampNeg := by
  have h1 := nat_of hx; have h2 := nat_of hy
  rw [← Int32.toInt_inj]; omega
theorem own_main (i j k : Nat) (x y z : Int32) (hi : i < 512) (hj : j < 512) (hk : k < 512) (F : Nat → Prop) [DecidablePred F] (hF : ∀ n, F n ↔ (148 ≤ n ∧ n < 156)) (X Y W : Int64) (ex : X = (x &&& 255).toInt64) (ey : Y = (y &&& 255).toInt64) (ez : W = (z &&& 255).toInt64) :
    sm (own_f i j k x y z) 512 = (256 : Int64) + (if ¬ F k then W else 0) + (if ¬ F j ∧ j ≠ k then Y else 0) + (if ¬ F i ∧ i ≠ j ∧ i ≠ k then X else 0) := by
  have e : ∀ n, (148 ≤ n ∧ n < 156) ↔ F n := fun n => (hF n).symm
  unfold own_f
  rw [own_smu, own_smu, own_smu, own_sm0]
  simp only [e, hi, hj, hk, true_and]
  unfold upd
  by_cases a1 : k = j <;> by_cases a2 : k = i <;> by_cases a3 : j = i <;> by_cases b1 : F i <;> by_cases b2 : F j <;> by_cases b3 : F k
  all_goals (subst_vars; simp_all; try grind)

theorem ef_rm0 (m : MethodId) (u0 : Int32) (u1 : Int32) (u2 : Int32) (u3 : Int32) (u4 : Int32) (u5 : Int32) : entryFrame m #[(.int u0), (.int u1), (.int u2), (.int u3), (.int u4), (.int u5)] maxLocals = mkF m 0 #[.val (.int u0), .val (.int u1), .val (.int u2), .val (.int u3), .val (.int u4), .val (.int u5), .unset, .unset, .unset, .unset, .unset, .unset] [] := by first | (simp [entryFrame, mkF, argsToLocals, Value.category, maxLocals]; done) | rfl
def Q_rm0 (Z : State) (u0 : Int32) (u1 : Int32) (u2 : Int32) (u3 : Int32) (u4 : Int32) (u5 : Int32)  (h0 : Heap) (n0 : Nat) (v : Option Value) (h : Heap) (L : List Loc) : Prop := v = some (.int (1 : Int32)) ∧ Fr n0 L
theorem pd_0 : parseMethodDescriptor "(I)Z" = some ⟨[.int], some .boolean⟩ := by decide +kernel
theorem pd_1 : parseMethodDescriptor "([B)J" = some ⟨[(.array .byte)], some .long⟩ := by decide +kernel
theorem own_law (xi xj xk u1 u3 u5 : Int32) (hi : ¬ xi < 0 ∧ xi.toNatClampNeg < 512) (hj : ¬ xj < 0 ∧ xj.toNatClampNeg < 512) (hk : ¬ xk < 0 ∧ xk.toNatClampNeg < 512) : ((cs (own_f xi.toNatClampNeg xj.toNatClampNeg xk.toNatClampNeg (u1.toInt8.toInt32) (u3.toInt8.toInt32) (u5.toInt8.toInt32)) 512 0 0) = (if ((fIn xi) = (0 : Int32)) then (if (xi = xj) then (if ((fIn xj) = (0 : Int32)) then (if (xj = xk) then (if ((fIn xk) = (0 : Int32)) then ((256 : Int64) + ((u5 &&& (255 : Int32)).toInt64)) else (256 : Int64)) else ((if ((fIn xk) = (0 : Int32)) then ((256 : Int64) + ((u5 &&& (255 : Int32)).toInt64)) else (256 : Int64)) + ((u3 &&& (255 : Int32)).toInt64))) else (if ((fIn xk) = (0 : Int32)) then ((256 : Int64) + ((u5 &&& (255 : Int32)).toInt64)) else (256 : Int64))) else (if (xi = xk) then (if ((fIn xj) = (0 : Int32)) then (if (xj = xk) then (if ((fIn xk) = (0 : Int32)) then ((256 : Int64) + ((u5 &&& (255 : Int32)).toInt64)) else (256 : Int64)) else ((if ((fIn xk) = (0 : Int32)) then ((256 : Int64) + ((u5 &&& (255 : Int32)).toInt64)) else (256 : Int64)) + ((u3 &&& (255 : Int32)).toInt64))) else (if ((fIn xk) = (0 : Int32)) then ((256 : Int64) + ((u5 &&& (255 : Int32)).toInt64)) else (256 : Int64))) else ((if ((fIn xj) = (0 : Int32)) then (if (xj = xk) then (if ((fIn xk) = (0 : Int32)) then ((256 : Int64) + ((u5 &&& (255 : Int32)).toInt64)) else (256 : Int64)) else ((if ((fIn xk) = (0 : Int32)) then ((256 : Int64) + ((u5 &&& (255 : Int32)).toInt64)) else (256 : Int64)) + ((u3 &&& (255 : Int32)).toInt64))) else (if ((fIn xk) = (0 : Int32)) then ((256 : Int64) + ((u5 &&& (255 : Int32)).toInt64)) else (256 : Int64))) + ((u1 &&& (255 : Int32)).toInt64)))) else (if ((fIn xj) = (0 : Int32)) then (if (xj = xk) then (if ((fIn xk) = (0 : Int32)) then ((256 : Int64) + ((u5 &&& (255 : Int32)).toInt64)) else (256 : Int64)) else ((if ((fIn xk) = (0 : Int32)) then ((256 : Int64) + ((u5 &&& (255 : Int32)).toInt64)) else (256 : Int64)) + ((u3 &&& (255 : Int32)).toInt64))) else (if ((fIn xk) = (0 : Int32)) then ((256 : Int64) + ((u5 &&& (255 : Int32)).toInt64)) else (256 : Int64))))) := by
  have h := own_cs (own_f xi.toNatClampNeg xj.toNatClampNeg xk.toNatClampNeg (u1.toInt8.toInt32) (u3.toInt8.toInt32) (u5.toInt8.toInt32)) 512 0 0 (by decide) (by decide)
  rw [show sm _ (0 : Int32).toNatClampNeg = 0 from rfl, show (0 : Int32).toNatClampNeg + 512 = 512 from rfl] at h
  rw [own_main _ _ _ _ _ _ hi.2 hj.2 hk.2 (fun n => 148 ≤ n ∧ n < 156) (fun n => Iff.rfl) (u1 &&& 255).toInt64 (u3 &&& 255).toInt64 (u5 &&& 255).toInt64 (by rw [own_b]) (by rw [own_b]) (by rw [own_b])] at h
  rw [Int64.add_zero, Int64.zero_add] at h
  rw [h]
  simp only [own_in hi.1, own_in hj.1, own_in hk.1, own_eq hi.1 hj.1, own_eq hj.1 hk.1, own_eq hi.1 hk.1]
  generalize xi.toNatClampNeg = i
  generalize xj.toNatClampNeg = j
  generalize xk.toNatClampNeg = k
  generalize (u1 &&& 255).toInt64 = X
  generalize (u3 &&& 255).toInt64 = Y
  generalize (u5 &&& 255).toInt64 = W
  by_cases a1 : i = j <;> by_cases a2 : j = k <;> by_cases a3 : i = k <;> by_cases b1 : (148 ≤ i ∧ i < 156) <;> by_cases b2 : (148 ≤ j ∧ j < 156) <;> by_cases b3 : (148 ≤ k ∧ k < 156)
  all_goals (simp only [a1, a2, a3, b1, b2, b3, if_pos, if_neg, not_true_eq_false, not_false_eq_true, and_self, and_false, false_and, and_true, true_and, ne_eq, if_true, if_false]; try grind)
set_option maxRecDepth 65536 in
set_option maxHeartbeats 40000000 in
theorem rm0 (l : Launch) (Z : State) (a0 : Array Value) (hw : ∀ d ∈ tables_1, d.before a0 Z = true) (ws : List Jvm.Cond) (u0 : Int32) (u1 : Int32) (u2 : Int32) (u3 : Int32) (u4 : Int32) (u5 : Int32)  (h0 : Heap) (n0 : Nat) (Z0 : n0 ≤ h0.size)  :
    MetFree l x (head1 (Jvm.Cond.code x code maxLocals ret :: ws) room_1) (fun a U => a = #[(.int u0), (.int u1), (.int u2), (.int u3), (.int u4), (.int u5)] ∧ Z.Warmed39 U.vm ∧ U.heap = h0) (fun _ _ _ _ _ => True) (fun _ U o U' => ∃ v L, o = .returned v ∧ (Q_rm0 Z u0 u1 u2 u3 u4 u5 h0 n0) v U'.heap L ∧ FrameEnd U o U' L 16 1088) := by
  refine MetFree.of_bodySF (plainFor_of_name pn_0) hisR ?_
  intro p e s m args below meth c s₁ Bd hml0 hP hK
  obtain ⟨rfl, hZ, hh⟩ := hP
  have hx := Bd.exec
  have hby := Bd.bytes
  have hml : c.maxLocals = 12 := hml0
  have hown : s.vm.findClass "com/example/stowage/stowage/core/TarChecksumPinLaw" = some m.cls := findClass_of_methodNamed Bd.named
  have hnm := (name_of_methodNamed Bd.named Bd.method).1
  have X0 : Stand p l e room_1 s m #[(.int u0), (.int u1), (.int u2), (.int u3), (.int u4), (.int u5)] below meth c s₁ [] 0 0 := Stand.of_body Bd
  have e0 : s₁.heap = h0 := by rw [← hh, Bd.state]; rfl
  have N0 := Fr.nil n0
  show OFin p e below (ORet (Q_rm0 Z u0 u1 u2 u3 u4 u5 h0 n0) s 16 1088) (s₁.setTop (entryFrame m #[(.int u0), (.int u1), (.int u2), (.int u3), (.int u4), (.int u5)] maxLocals))
  refine OFin.go (fun t k => castTop (ef_rm0 m u0 u1 u2 u3 u4 u5) k) ?_
  show OFin p e below (ORet (Q_rm0 Z u0 u1 u2 u3 u4 u5 h0 n0) s 16 1088) (s₁.setTop (mkF m 0 #[.val (.int u0), .val (.int u1), .val (.int u2), .val (.int u3), .val (.int u4), .val (.int u5), .unset, .unset, .unset, .unset, .unset, .unset] []))
  have S1 : ∀ t, Steps p.tables e below (s₁.setTop (mkF m 10 #[.val (.int u0), .val (.int u1), .val (.int u2), .val (.int u3), .val (.int u4), .val (.int u5), .val (.int ((u0 &&& (2147483647 : Int32)) % (512 : Int32))), .unset, .unset, .unset, .unset, .unset] [])) t → Steps p.tables e below (s₁.setTop (mkF m 0 #[.val (.int u0), .val (.int u1), .val (.int u2), .val (.int u3), .val (.int u4), .val (.int u5), .unset, .unset, .unset, .unset, .unset, .unset] [])) t := by
    intro t k
    show Steps p.tables e below (s₁.setTop (mkF m 0 #[.val (.int u0), .val (.int u1), .val (.int u2), .val (.int u3), .val (.int u4), .val (.int u5), .unset, .unset, .unset, .unset, .unset, .unset] [])) t
    refine XS.iloadN X0.here hx rfl (hb hby at_0) rfl ?_
    show Steps p.tables e below (s₁.setTop (mkF m 1 #[.val (.int u0), .val (.int u1), .val (.int u2), .val (.int u3), .val (.int u4), .val (.int u5), .unset, .unset, .unset, .unset, .unset, .unset] [(.int u0)])) t
    refine X0.ldcInt hx hown (mvT hZ (hw _ (List.mem_of_getElem? (i := 0) rfl))) (g := (mkF m 1 #[.val (.int u0), .val (.int u1), .val (.int u2), .val (.int u3), .val (.int u4), .val (.int u5), .unset, .unset, .unset, .unset, .unset, .unset] [(.int u0)])) rfl (hb hby at_1) _ ?_
    show Steps p.tables e below (s₁.setTop (mkF m 3 #[.val (.int u0), .val (.int u1), .val (.int u2), .val (.int u3), .val (.int u4), .val (.int u5), .unset, .unset, .unset, .unset, .unset, .unset] [(.int (2147483647 : Int32)), (.int u0)])) t
    refine XS.iand X0.here hx rfl (hb hby at_3) rfl ?_
    show Steps p.tables e below (s₁.setTop (mkF m 4 #[.val (.int u0), .val (.int u1), .val (.int u2), .val (.int u3), .val (.int u4), .val (.int u5), .unset, .unset, .unset, .unset, .unset, .unset] [(.int (u0 &&& (2147483647 : Int32)))])) t
    refine XS.sipush X0.here hx rfl (hb hby at_4) ?_
    show Steps p.tables e below (s₁.setTop (mkF m 7 #[.val (.int u0), .val (.int u1), .val (.int u2), .val (.int u3), .val (.int u4), .val (.int u5), .unset, .unset, .unset, .unset, .unset, .unset] [(.int (512 : Int32)), (.int (u0 &&& (2147483647 : Int32)))])) t
    refine iremM X0 hx rfl (hb hby at_7) rfl (by decide) ?_
    show Steps p.tables e below (s₁.setTop (mkF m 8 #[.val (.int u0), .val (.int u1), .val (.int u2), .val (.int u3), .val (.int u4), .val (.int u5), .unset, .unset, .unset, .unset, .unset, .unset] [(.int ((u0 &&& (2147483647 : Int32)) % (512 : Int32)))])) t
    refine XS.istore X0.here hx rfl (hb hby at_8) rfl (l' := #[.val (.int u0), .val (.int u1), .val (.int u2), .val (.int u3), .val (.int u4), .val (.int u5), .val (.int ((u0 &&& (2147483647 : Int32)) % (512 : Int32))), .unset, .unset, .unset, .unset, .unset]) rfl ?_
    exact k
  refine OFin.go S1 ?_
  obtain ⟨xi, hxi⟩ : ∃ z : Int32, z = ((u0 &&& (2147483647 : Int32)) % (512 : Int32)) := ⟨_, rfl⟩
  rw [← hxi]
  show OFin p e below _ (s₁.setTop (mkF m 10 #[.val (.int u0), .val (.int u1), .val (.int u2), .val (.int u3), .val (.int u4), .val (.int u5), .val (.int xi), .unset, .unset, .unset, .unset, .unset] []))
  have S2 : ∀ t, Steps p.tables e below (s₁.setTop (mkF m 20 #[.val (.int u0), .val (.int u1), .val (.int u2), .val (.int u3), .val (.int u4), .val (.int u5), .val (.int xi), .val (.int ((u2 &&& (2147483647 : Int32)) % (512 : Int32))), .unset, .unset, .unset, .unset] [])) t → Steps p.tables e below (s₁.setTop (mkF m 10 #[.val (.int u0), .val (.int u1), .val (.int u2), .val (.int u3), .val (.int u4), .val (.int u5), .val (.int xi), .unset, .unset, .unset, .unset, .unset] [])) t := by
    intro t k
    show Steps p.tables e below (s₁.setTop (mkF m 10 #[.val (.int u0), .val (.int u1), .val (.int u2), .val (.int u3), .val (.int u4), .val (.int u5), .val (.int xi), .unset, .unset, .unset, .unset, .unset] [])) t
    refine XS.iloadN X0.here hx rfl (hb hby at_10) rfl ?_
    show Steps p.tables e below (s₁.setTop (mkF m 11 #[.val (.int u0), .val (.int u1), .val (.int u2), .val (.int u3), .val (.int u4), .val (.int u5), .val (.int xi), .unset, .unset, .unset, .unset, .unset] [(.int u2)])) t
    refine X0.ldcInt hx hown (mvT hZ (hw _ (List.mem_of_getElem? (i := 0) rfl))) (g := (mkF m 11 #[.val (.int u0), .val (.int u1), .val (.int u2), .val (.int u3), .val (.int u4), .val (.int u5), .val (.int xi), .unset, .unset, .unset, .unset, .unset] [(.int u2)])) rfl (hb hby at_11) _ ?_
    show Steps p.tables e below (s₁.setTop (mkF m 13 #[.val (.int u0), .val (.int u1), .val (.int u2), .val (.int u3), .val (.int u4), .val (.int u5), .val (.int xi), .unset, .unset, .unset, .unset, .unset] [(.int (2147483647 : Int32)), (.int u2)])) t
    refine XS.iand X0.here hx rfl (hb hby at_13) rfl ?_
    show Steps p.tables e below (s₁.setTop (mkF m 14 #[.val (.int u0), .val (.int u1), .val (.int u2), .val (.int u3), .val (.int u4), .val (.int u5), .val (.int xi), .unset, .unset, .unset, .unset, .unset] [(.int (u2 &&& (2147483647 : Int32)))])) t
    refine XS.sipush X0.here hx rfl (hb hby at_14) ?_
    show Steps p.tables e below (s₁.setTop (mkF m 17 #[.val (.int u0), .val (.int u1), .val (.int u2), .val (.int u3), .val (.int u4), .val (.int u5), .val (.int xi), .unset, .unset, .unset, .unset, .unset] [(.int (512 : Int32)), (.int (u2 &&& (2147483647 : Int32)))])) t
    refine iremM X0 hx rfl (hb hby at_17) rfl (by decide) ?_
    show Steps p.tables e below (s₁.setTop (mkF m 18 #[.val (.int u0), .val (.int u1), .val (.int u2), .val (.int u3), .val (.int u4), .val (.int u5), .val (.int xi), .unset, .unset, .unset, .unset, .unset] [(.int ((u2 &&& (2147483647 : Int32)) % (512 : Int32)))])) t
    refine XS.istore X0.here hx rfl (hb hby at_18) rfl (l' := #[.val (.int u0), .val (.int u1), .val (.int u2), .val (.int u3), .val (.int u4), .val (.int u5), .val (.int xi), .val (.int ((u2 &&& (2147483647 : Int32)) % (512 : Int32))), .unset, .unset, .unset, .unset]) rfl ?_
    exact k
  refine OFin.go S2 ?_
  obtain ⟨xj, hxj⟩ : ∃ z : Int32, z = ((u2 &&& (2147483647 : Int32)) % (512 : Int32)) := ⟨_, rfl⟩
  rw [← hxj]
  show OFin p e below _ (s₁.setTop (mkF m 20 #[.val (.int u0), .val (.int u1), .val (.int u2), .val (.int u3), .val (.int u4), .val (.int u5), .val (.int xi), .val (.int xj), .unset, .unset, .unset, .unset] []))
  have S3 : ∀ t, Steps p.tables e below (s₁.setTop (mkF m 31 #[.val (.int u0), .val (.int u1), .val (.int u2), .val (.int u3), .val (.int u4), .val (.int u5), .val (.int xi), .val (.int xj), .val (.int ((u4 &&& (2147483647 : Int32)) % (512 : Int32))), .unset, .unset, .unset] [])) t → Steps p.tables e below (s₁.setTop (mkF m 20 #[.val (.int u0), .val (.int u1), .val (.int u2), .val (.int u3), .val (.int u4), .val (.int u5), .val (.int xi), .val (.int xj), .unset, .unset, .unset, .unset] [])) t := by
    intro t k
    show Steps p.tables e below (s₁.setTop (mkF m 20 #[.val (.int u0), .val (.int u1), .val (.int u2), .val (.int u3), .val (.int u4), .val (.int u5), .val (.int xi), .val (.int xj), .unset, .unset, .unset, .unset] [])) t
    refine XS.iload X0.here hx rfl (hb hby at_20) rfl ?_
    show Steps p.tables e below (s₁.setTop (mkF m 22 #[.val (.int u0), .val (.int u1), .val (.int u2), .val (.int u3), .val (.int u4), .val (.int u5), .val (.int xi), .val (.int xj), .unset, .unset, .unset, .unset] [(.int u4)])) t
    refine X0.ldcInt hx hown (mvT hZ (hw _ (List.mem_of_getElem? (i := 0) rfl))) (g := (mkF m 22 #[.val (.int u0), .val (.int u1), .val (.int u2), .val (.int u3), .val (.int u4), .val (.int u5), .val (.int xi), .val (.int xj), .unset, .unset, .unset, .unset] [(.int u4)])) rfl (hb hby at_22) _ ?_
    show Steps p.tables e below (s₁.setTop (mkF m 24 #[.val (.int u0), .val (.int u1), .val (.int u2), .val (.int u3), .val (.int u4), .val (.int u5), .val (.int xi), .val (.int xj), .unset, .unset, .unset, .unset] [(.int (2147483647 : Int32)), (.int u4)])) t
    refine XS.iand X0.here hx rfl (hb hby at_24) rfl ?_
    show Steps p.tables e below (s₁.setTop (mkF m 25 #[.val (.int u0), .val (.int u1), .val (.int u2), .val (.int u3), .val (.int u4), .val (.int u5), .val (.int xi), .val (.int xj), .unset, .unset, .unset, .unset] [(.int (u4 &&& (2147483647 : Int32)))])) t
    refine XS.sipush X0.here hx rfl (hb hby at_25) ?_
    show Steps p.tables e below (s₁.setTop (mkF m 28 #[.val (.int u0), .val (.int u1), .val (.int u2), .val (.int u3), .val (.int u4), .val (.int u5), .val (.int xi), .val (.int xj), .unset, .unset, .unset, .unset] [(.int (512 : Int32)), (.int (u4 &&& (2147483647 : Int32)))])) t
    refine iremM X0 hx rfl (hb hby at_28) rfl (by decide) ?_
    show Steps p.tables e below (s₁.setTop (mkF m 29 #[.val (.int u0), .val (.int u1), .val (.int u2), .val (.int u3), .val (.int u4), .val (.int u5), .val (.int xi), .val (.int xj), .unset, .unset, .unset, .unset] [(.int ((u4 &&& (2147483647 : Int32)) % (512 : Int32)))])) t
    refine XS.istore X0.here hx rfl (hb hby at_29) rfl (l' := #[.val (.int u0), .val (.int u1), .val (.int u2), .val (.int u3), .val (.int u4), .val (.int u5), .val (.int xi), .val (.int xj), .val (.int ((u4 &&& (2147483647 : Int32)) % (512 : Int32))), .unset, .unset, .unset]) rfl ?_
    exact k
  refine OFin.go S3 ?_
  obtain ⟨xk, hxk⟩ : ∃ z : Int32, z = ((u4 &&& (2147483647 : Int32)) % (512 : Int32)) := ⟨_, rfl⟩
  rw [← hxk]
  show OFin p e below _ (s₁.setTop (mkF m 31 #[.val (.int u0), .val (.int u1), .val (.int u2), .val (.int u3), .val (.int u4), .val (.int u5), .val (.int xi), .val (.int xj), .val (.int xk), .unset, .unset, .unset] []))
  have S4 : ∀ t, Steps p.tables e below (s₁.setTop (mkF m 34 #[.val (.int u0), .val (.int u1), .val (.int u2), .val (.int u3), .val (.int u4), .val (.int u5), .val (.int xi), .val (.int xj), .val (.int xk), .unset, .unset, .unset] [(.int (512 : Int32))])) t → Steps p.tables e below (s₁.setTop (mkF m 31 #[.val (.int u0), .val (.int u1), .val (.int u2), .val (.int u3), .val (.int u4), .val (.int u5), .val (.int xi), .val (.int xj), .val (.int xk), .unset, .unset, .unset] [])) t := by
    intro t k
    show Steps p.tables e below (s₁.setTop (mkF m 31 #[.val (.int u0), .val (.int u1), .val (.int u2), .val (.int u3), .val (.int u4), .val (.int u5), .val (.int xi), .val (.int xj), .val (.int xk), .unset, .unset, .unset] [])) t
    refine XS.sipush X0.here hx rfl (hb hby at_31) ?_
    exact k
  refine OFin.go S4 ?_
  obtain ⟨T5, h5, k5, X5, e5, E5, A5, st5⟩ := newP X0 hx hZ (hw _ (List.mem_of_getElem? (i := 1) rfl)) e0 (g := (mkF m 34 #[.val (.int u0), .val (.int u1), .val (.int u2), .val (.int u3), .val (.int u4), .val (.int u5), .val (.int xi), .val (.int xj), .val (.int xk), .unset, .unset, .unset] [(.int (512 : Int32))])) rfl (hb hby at_34) rfl (by decide) (cap := 512) (by decide) (by decide) (Nat.le_of_ble_eq_true rfl) (Nat.le_of_ble_eq_true rfl)
  obtain ⟨b5, g5⟩ : ∃ z, z = h0.size := ⟨_, rfl⟩
  rw [← g5] at A5 st5
  have ge5 : n0 ≤ b5 := Nat.le_trans Z0 (Nat.le_of_eq g5.symm)
  have Z5 : n0 ≤ h5.size := Nat.le_trans Z0 E5.1
  have V5 : Ara Z h5 b5 .byte 512 (fun _ => defaultValue .byte) := Ara.new A5 rfl
  refine OFin.go st5 ?_
  show OFin p e below _ (T5.setTop (mkF m 36 #[.val (.int u0), .val (.int u1), .val (.int u2), .val (.int u3), .val (.int u4), .val (.int u5), .val (.int xi), .val (.int xj), .val (.int xk), .unset, .unset, .unset] [(.ref b5)]))
  have S6 : ∀ t, Steps p.tables e below (T5.setTop (mkF m 44 #[.val (.int u0), .val (.int u1), .val (.int u2), .val (.int u3), .val (.int u4), .val (.int u5), .val (.int xi), .val (.int xj), .val (.int xk), .val (.ref b5), .unset, .unset] [(.int (u1.toInt8.toInt32)), (.int xi), (.ref b5)])) t → Steps p.tables e below (T5.setTop (mkF m 36 #[.val (.int u0), .val (.int u1), .val (.int u2), .val (.int u3), .val (.int u4), .val (.int u5), .val (.int xi), .val (.int xj), .val (.int xk), .unset, .unset, .unset] [(.ref b5)])) t := by
    intro t k
    show Steps p.tables e below (T5.setTop (mkF m 36 #[.val (.int u0), .val (.int u1), .val (.int u2), .val (.int u3), .val (.int u4), .val (.int u5), .val (.int xi), .val (.int xj), .val (.int xk), .unset, .unset, .unset] [(.ref b5)])) t
    refine XS.astore X5.here hx rfl (hb hby at_36) rfl rfl (l' := #[.val (.int u0), .val (.int u1), .val (.int u2), .val (.int u3), .val (.int u4), .val (.int u5), .val (.int xi), .val (.int xj), .val (.int xk), .val (.ref b5), .unset, .unset]) rfl ?_
    show Steps p.tables e below (T5.setTop (mkF m 38 #[.val (.int u0), .val (.int u1), .val (.int u2), .val (.int u3), .val (.int u4), .val (.int u5), .val (.int xi), .val (.int xj), .val (.int xk), .val (.ref b5), .unset, .unset] [])) t
    refine XS.aload X5.here hx rfl (hb hby at_38) rfl rfl ?_
    show Steps p.tables e below (T5.setTop (mkF m 40 #[.val (.int u0), .val (.int u1), .val (.int u2), .val (.int u3), .val (.int u4), .val (.int u5), .val (.int xi), .val (.int xj), .val (.int xk), .val (.ref b5), .unset, .unset] [(.ref b5)])) t
    refine XS.iload X5.here hx rfl (hb hby at_40) rfl ?_
    show Steps p.tables e below (T5.setTop (mkF m 42 #[.val (.int u0), .val (.int u1), .val (.int u2), .val (.int u3), .val (.int u4), .val (.int u5), .val (.int xi), .val (.int xj), .val (.int xk), .val (.ref b5), .unset, .unset] [(.int xi), (.ref b5)])) t
    refine XS.iloadN X5.here hx rfl (hb hby at_42) rfl ?_
    show Steps p.tables e below (T5.setTop (mkF m 43 #[.val (.int u0), .val (.int u1), .val (.int u2), .val (.int u3), .val (.int u4), .val (.int u5), .val (.int xi), .val (.int xj), .val (.int xk), .val (.ref b5), .unset, .unset] [(.int u1), (.int xi), (.ref b5)])) t
    refine XS.i2b X5.here hx rfl (hb hby at_43) rfl ?_
    exact k
  refine OFin.go S6 ?_
  obtain ⟨T7, h7, X7, e7, W7, st7⟩ := wrB X5 hx hZ e5 V5 (i := xi.toNatClampNeg) (own_r hxi).1 rfl (own_r hxi).2 (y' := (u1.toInt8.toInt32)) (nar_b _) (g := (mkF m 44 #[.val (.int u0), .val (.int u1), .val (.int u2), .val (.int u3), .val (.int u4), .val (.int u5), .val (.int xi), .val (.int xj), .val (.int xk), .val (.ref b5), .unset, .unset] [(.int (u1.toInt8.toInt32)), (.int xi), (.ref b5)])) rfl rfl (hb hby at_44)
  have V7 := V5.set W7
  have N7 := Fr.snoc X7 N0 ge5
  have Z7 : n0 ≤ h7.size := Nat.le_trans Z5 (wr_le W7)
  refine OFin.go st7 ?_
  show OFin p e below _ (T7.setTop (mkF m 45 #[.val (.int u0), .val (.int u1), .val (.int u2), .val (.int u3), .val (.int u4), .val (.int u5), .val (.int xi), .val (.int xj), .val (.int xk), .val (.ref b5), .unset, .unset] []))
  have S8 : ∀ t, Steps p.tables e below (T7.setTop (mkF m 51 #[.val (.int u0), .val (.int u1), .val (.int u2), .val (.int u3), .val (.int u4), .val (.int u5), .val (.int xi), .val (.int xj), .val (.int xk), .val (.ref b5), .unset, .unset] [(.int (u3.toInt8.toInt32)), (.int xj), (.ref b5)])) t → Steps p.tables e below (T7.setTop (mkF m 45 #[.val (.int u0), .val (.int u1), .val (.int u2), .val (.int u3), .val (.int u4), .val (.int u5), .val (.int xi), .val (.int xj), .val (.int xk), .val (.ref b5), .unset, .unset] [])) t := by
    intro t k
    show Steps p.tables e below (T7.setTop (mkF m 45 #[.val (.int u0), .val (.int u1), .val (.int u2), .val (.int u3), .val (.int u4), .val (.int u5), .val (.int xi), .val (.int xj), .val (.int xk), .val (.ref b5), .unset, .unset] [])) t
    refine XS.aload X7.here hx rfl (hb hby at_45) rfl rfl ?_
    show Steps p.tables e below (T7.setTop (mkF m 47 #[.val (.int u0), .val (.int u1), .val (.int u2), .val (.int u3), .val (.int u4), .val (.int u5), .val (.int xi), .val (.int xj), .val (.int xk), .val (.ref b5), .unset, .unset] [(.ref b5)])) t
    refine XS.iload X7.here hx rfl (hb hby at_47) rfl ?_
    show Steps p.tables e below (T7.setTop (mkF m 49 #[.val (.int u0), .val (.int u1), .val (.int u2), .val (.int u3), .val (.int u4), .val (.int u5), .val (.int xi), .val (.int xj), .val (.int xk), .val (.ref b5), .unset, .unset] [(.int xj), (.ref b5)])) t
    refine XS.iloadN X7.here hx rfl (hb hby at_49) rfl ?_
    show Steps p.tables e below (T7.setTop (mkF m 50 #[.val (.int u0), .val (.int u1), .val (.int u2), .val (.int u3), .val (.int u4), .val (.int u5), .val (.int xi), .val (.int xj), .val (.int xk), .val (.ref b5), .unset, .unset] [(.int u3), (.int xj), (.ref b5)])) t
    refine XS.i2b X7.here hx rfl (hb hby at_50) rfl ?_
    exact k
  refine OFin.go S8 ?_
  obtain ⟨T9, h9, X9, e9, W9, st9⟩ := wrB X7 hx hZ e7 V7 (i := xj.toNatClampNeg) (own_r hxj).1 rfl (own_r hxj).2 (y' := (u3.toInt8.toInt32)) (nar_b _) (g := (mkF m 51 #[.val (.int u0), .val (.int u1), .val (.int u2), .val (.int u3), .val (.int u4), .val (.int u5), .val (.int xi), .val (.int xj), .val (.int xk), .val (.ref b5), .unset, .unset] [(.int (u3.toInt8.toInt32)), (.int xj), (.ref b5)])) rfl rfl (hb hby at_51)
  have V9 := V7.set W9
  have N9 := Fr.snoc X9 N7 ge5
  have Z9 : n0 ≤ h9.size := Nat.le_trans Z7 (wr_le W9)
  refine OFin.go st9 ?_
  show OFin p e below _ (T9.setTop (mkF m 52 #[.val (.int u0), .val (.int u1), .val (.int u2), .val (.int u3), .val (.int u4), .val (.int u5), .val (.int xi), .val (.int xj), .val (.int xk), .val (.ref b5), .unset, .unset] []))
  have S10 : ∀ t, Steps p.tables e below (T9.setTop (mkF m 59 #[.val (.int u0), .val (.int u1), .val (.int u2), .val (.int u3), .val (.int u4), .val (.int u5), .val (.int xi), .val (.int xj), .val (.int xk), .val (.ref b5), .unset, .unset] [(.int (u5.toInt8.toInt32)), (.int xk), (.ref b5)])) t → Steps p.tables e below (T9.setTop (mkF m 52 #[.val (.int u0), .val (.int u1), .val (.int u2), .val (.int u3), .val (.int u4), .val (.int u5), .val (.int xi), .val (.int xj), .val (.int xk), .val (.ref b5), .unset, .unset] [])) t := by
    intro t k
    show Steps p.tables e below (T9.setTop (mkF m 52 #[.val (.int u0), .val (.int u1), .val (.int u2), .val (.int u3), .val (.int u4), .val (.int u5), .val (.int xi), .val (.int xj), .val (.int xk), .val (.ref b5), .unset, .unset] [])) t
    refine XS.aload X9.here hx rfl (hb hby at_52) rfl rfl ?_
    show Steps p.tables e below (T9.setTop (mkF m 54 #[.val (.int u0), .val (.int u1), .val (.int u2), .val (.int u3), .val (.int u4), .val (.int u5), .val (.int xi), .val (.int xj), .val (.int xk), .val (.ref b5), .unset, .unset] [(.ref b5)])) t
    refine XS.iload X9.here hx rfl (hb hby at_54) rfl ?_
    show Steps p.tables e below (T9.setTop (mkF m 56 #[.val (.int u0), .val (.int u1), .val (.int u2), .val (.int u3), .val (.int u4), .val (.int u5), .val (.int xi), .val (.int xj), .val (.int xk), .val (.ref b5), .unset, .unset] [(.int xk), (.ref b5)])) t
    refine XS.iload X9.here hx rfl (hb hby at_56) rfl ?_
    show Steps p.tables e below (T9.setTop (mkF m 58 #[.val (.int u0), .val (.int u1), .val (.int u2), .val (.int u3), .val (.int u4), .val (.int u5), .val (.int xi), .val (.int xj), .val (.int xk), .val (.ref b5), .unset, .unset] [(.int u5), (.int xk), (.ref b5)])) t
    refine XS.i2b X9.here hx rfl (hb hby at_58) rfl ?_
    exact k
  refine OFin.go S10 ?_
  obtain ⟨T11, h11, X11, e11, W11, st11⟩ := wrB X9 hx hZ e9 V9 (i := xk.toNatClampNeg) (own_r hxk).1 rfl (own_r hxk).2 (y' := (u5.toInt8.toInt32)) (nar_b _) (g := (mkF m 59 #[.val (.int u0), .val (.int u1), .val (.int u2), .val (.int u3), .val (.int u4), .val (.int u5), .val (.int xi), .val (.int xj), .val (.int xk), .val (.ref b5), .unset, .unset] [(.int (u5.toInt8.toInt32)), (.int xk), (.ref b5)])) rfl rfl (hb hby at_59)
  have V11 := V9.set W11
  have N11 := Fr.snoc X11 N9 ge5
  have Z11 : n0 ≤ h11.size := Nat.le_trans Z9 (wr_le W11)
  refine OFin.go st11 ?_
  show OFin p e below _ (T11.setTop (mkF m 60 #[.val (.int u0), .val (.int u1), .val (.int u2), .val (.int u3), .val (.int u4), .val (.int u5), .val (.int xi), .val (.int xj), .val (.int xk), .val (.ref b5), .unset, .unset] []))
  have S12 : ∀ t, Steps p.tables e below (T11.setTop (mkF m 67 #[.val (.int u0), .val (.int u1), .val (.int u2), .val (.int u3), .val (.int u4), .val (.int u5), .val (.int xi), .val (.int xj), .val (.int xk), .val (.ref b5), .val (.long (256 : Int64)), .second] [(.int xk)])) t → Steps p.tables e below (T11.setTop (mkF m 60 #[.val (.int u0), .val (.int u1), .val (.int u2), .val (.int u3), .val (.int u4), .val (.int u5), .val (.int xi), .val (.int xj), .val (.int xk), .val (.ref b5), .unset, .unset] [])) t := by
    intro t k
    show Steps p.tables e below (T11.setTop (mkF m 60 #[.val (.int u0), .val (.int u1), .val (.int u2), .val (.int u3), .val (.int u4), .val (.int u5), .val (.int xi), .val (.int xj), .val (.int xk), .val (.ref b5), .unset, .unset] [])) t
    refine X11.ldc2Long hx hown (mvT hZ (hw _ (List.mem_of_getElem? (i := 2) rfl))) (g := (mkF m 60 #[.val (.int u0), .val (.int u1), .val (.int u2), .val (.int u3), .val (.int u4), .val (.int u5), .val (.int xi), .val (.int xj), .val (.int xk), .val (.ref b5), .unset, .unset] [])) rfl (hb hby at_60) _ ?_
    show Steps p.tables e below (T11.setTop (mkF m 63 #[.val (.int u0), .val (.int u1), .val (.int u2), .val (.int u3), .val (.int u4), .val (.int u5), .val (.int xi), .val (.int xj), .val (.int xk), .val (.ref b5), .unset, .unset] [(.long (256 : Int64))])) t
    refine XS.lstore X11.here hx rfl (hb hby at_63) rfl (l' := #[.val (.int u0), .val (.int u1), .val (.int u2), .val (.int u3), .val (.int u4), .val (.int u5), .val (.int xi), .val (.int xj), .val (.int xk), .val (.ref b5), .val (.long (256 : Int64)), .second]) rfl ?_
    show Steps p.tables e below (T11.setTop (mkF m 65 #[.val (.int u0), .val (.int u1), .val (.int u2), .val (.int u3), .val (.int u4), .val (.int u5), .val (.int xi), .val (.int xj), .val (.int xk), .val (.ref b5), .val (.long (256 : Int64)), .second] [])) t
    refine XS.iload X11.here hx rfl (hb hby at_65) rfl ?_
    exact k
  refine OFin.go S12 ?_
  obtain ⟨_, T13, Lc13, X13, hQ13, st13⟩ := callQ X11 hx hZ (y := (⟨"com/example/stowage/stowage/core/TarChecksumPinLaw", "inField", "(I)Z"⟩ : MethodName)) hown (hw _ (List.mem_of_getElem? (i := 3) rfl)) (hw _ (List.mem_of_getElem? (i := 4) rfl)) (hw _ (List.mem_of_getElem? (i := 5) rfl)) (hw _ (List.mem_of_getElem? (i := 6) rfl)) (by decide) (argsL := [(.int xk)]) (rest := []) (rm1 l Z a0 hw [] xk h11 n0 Z11) (W := 0) (by decide) (by decide) e11 (g := (mkF m 67 #[.val (.int u0), .val (.int u1), .val (.int u2), .val (.int u3), .val (.int u4), .val (.int u5), .val (.int xi), .val (.int xj), .val (.int xk), .val (.ref b5), .val (.long (256 : Int64)), .second] [(.int xk)])) rfl (by rw [hml]; rfl) (lenOf pd_0 rfl) rfl (by show 2 * 0 + _ ≤ _; exact Nat.le_of_eq rfl) (hb hby at_67) (Nat.le_of_ble_eq_true rfl) (Nat.le_of_ble_eq_true rfl)
  obtain ⟨rfl, N13q, e13⟩ := hQ13
  have N13 := Fr.app N11 N13q
  refine OFin.go st13 ?_
  show OFin p e below _ (T13.setTop (mkF m 70 #[.val (.int u0), .val (.int u1), .val (.int u2), .val (.int u3), .val (.int u4), .val (.int u5), .val (.int xi), .val (.int xj), .val (.int xk), .val (.ref b5), .val (.long (256 : Int64)), .second] [(.int (fIn xk))]))
  have J14 : ∀ t, Steps p.tables e below (T13.setTop (mkF m 85 #[.val (.int u0), .val (.int u1), .val (.int u2), .val (.int u3), .val (.int u4), .val (.int u5), .val (.int xi), .val (.int xj), .val (.int xk), .val (.ref b5), .val (.long (if ((fIn xk) = (0 : Int32)) then ((256 : Int64) + ((u5 &&& (255 : Int32)).toInt64)) else (256 : Int64))), .second] [])) t → Steps p.tables e below (T13.setTop (mkF m 70 #[.val (.int u0), .val (.int u1), .val (.int u2), .val (.int u3), .val (.int u4), .val (.int u5), .val (.int xi), .val (.int xj), .val (.int xk), .val (.ref b5), .val (.long (256 : Int64)), .second] [(.int (fIn xk))])) t := by
    intro t k
    show Steps p.tables e below (T13.setTop (mkF m 70 #[.val (.int u0), .val (.int u1), .val (.int u2), .val (.int u3), .val (.int u4), .val (.int u5), .val (.int xi), .val (.int xj), .val (.int xk), .val (.ref b5), .val (.long (256 : Int64)), .second] [(.int (fIn xk))])) t
    by_cases h15 : ((fIn xk) = (0 : Int32))
    · refine XS.ifNo X13.here hx rfl (hb hby at_70) rfl ((if0 _ _).trans (teq h15).2) ?_
      show Steps p.tables e below (T13.setTop (mkF m 73 #[.val (.int u0), .val (.int u1), .val (.int u2), .val (.int u3), .val (.int u4), .val (.int u5), .val (.int xi), .val (.int xj), .val (.int xk), .val (.ref b5), .val (.long (256 : Int64)), .second] [])) t
      refine XS.lload X13.here hx rfl (hb hby at_73) rfl ?_
      show Steps p.tables e below (T13.setTop (mkF m 75 #[.val (.int u0), .val (.int u1), .val (.int u2), .val (.int u3), .val (.int u4), .val (.int u5), .val (.int xi), .val (.int xj), .val (.int xk), .val (.ref b5), .val (.long (256 : Int64)), .second] [(.long (256 : Int64))])) t
      refine XS.iload X13.here hx rfl (hb hby at_75) rfl ?_
      show Steps p.tables e below (T13.setTop (mkF m 77 #[.val (.int u0), .val (.int u1), .val (.int u2), .val (.int u3), .val (.int u4), .val (.int u5), .val (.int xi), .val (.int xj), .val (.int xk), .val (.ref b5), .val (.long (256 : Int64)), .second] [(.int u5), (.long (256 : Int64))])) t
      refine XS.sipush X13.here hx rfl (hb hby at_77) ?_
      show Steps p.tables e below (T13.setTop (mkF m 80 #[.val (.int u0), .val (.int u1), .val (.int u2), .val (.int u3), .val (.int u4), .val (.int u5), .val (.int xi), .val (.int xj), .val (.int xk), .val (.ref b5), .val (.long (256 : Int64)), .second] [(.int (255 : Int32)), (.int u5), (.long (256 : Int64))])) t
      refine XS.iand X13.here hx rfl (hb hby at_80) rfl ?_
      show Steps p.tables e below (T13.setTop (mkF m 81 #[.val (.int u0), .val (.int u1), .val (.int u2), .val (.int u3), .val (.int u4), .val (.int u5), .val (.int xi), .val (.int xj), .val (.int xk), .val (.ref b5), .val (.long (256 : Int64)), .second] [(.int (u5 &&& (255 : Int32))), (.long (256 : Int64))])) t
      refine XS.i2l X13.here hx rfl (hb hby at_81) rfl ?_
      show Steps p.tables e below (T13.setTop (mkF m 82 #[.val (.int u0), .val (.int u1), .val (.int u2), .val (.int u3), .val (.int u4), .val (.int u5), .val (.int xi), .val (.int xj), .val (.int xk), .val (.ref b5), .val (.long (256 : Int64)), .second] [(.long ((u5 &&& (255 : Int32)).toInt64)), (.long (256 : Int64))])) t
      refine XS.ladd X13.here hx rfl (hb hby at_82) rfl ?_
      show Steps p.tables e below (T13.setTop (mkF m 83 #[.val (.int u0), .val (.int u1), .val (.int u2), .val (.int u3), .val (.int u4), .val (.int u5), .val (.int xi), .val (.int xj), .val (.int xk), .val (.ref b5), .val (.long (256 : Int64)), .second] [(.long ((256 : Int64) + ((u5 &&& (255 : Int32)).toInt64)))])) t
      refine XS.lstore X13.here hx rfl (hb hby at_83) rfl (l' := #[.val (.int u0), .val (.int u1), .val (.int u2), .val (.int u3), .val (.int u4), .val (.int u5), .val (.int xi), .val (.int xj), .val (.int xk), .val (.ref b5), .val (.long ((256 : Int64) + ((u5 &&& (255 : Int32)).toInt64))), .second]) rfl ?_
      show Steps p.tables e below (T13.setTop (mkF m 85 #[.val (.int u0), .val (.int u1), .val (.int u2), .val (.int u3), .val (.int u4), .val (.int u5), .val (.int xi), .val (.int xj), .val (.int xk), .val (.ref b5), .val (.long ((256 : Int64) + ((u5 &&& (255 : Int32)).toInt64))), .second] [])) t
      exact (castTop (congrArg (fun z => (mkF m 85 #[.val (.int u0), .val (.int u1), .val (.int u2), .val (.int u3), .val (.int u4), .val (.int u5), .val (.int xi), .val (.int xj), .val (.int xk), .val (.ref b5), .val (.long z), .second] [])) (show ((256 : Int64) + ((u5 &&& (255 : Int32)).toInt64)) = (if ((fIn xk) = (0 : Int32)) then ((256 : Int64) + ((u5 &&& (255 : Int32)).toInt64)) else (256 : Int64)) by rw [if_pos h15])) k)
    · refine XS.ifYes X13.here hx rfl (pc0 := 70) (pc' := 85) rfl (hb hby at_70) rfl ((if0 _ _).trans (feq h15).2) (by decide) (by decide) ?_
      show Steps p.tables e below (T13.setTop (mkF m 85 #[.val (.int u0), .val (.int u1), .val (.int u2), .val (.int u3), .val (.int u4), .val (.int u5), .val (.int xi), .val (.int xj), .val (.int xk), .val (.ref b5), .val (.long (256 : Int64)), .second] [])) t
      exact (castTop (congrArg (fun z => (mkF m 85 #[.val (.int u0), .val (.int u1), .val (.int u2), .val (.int u3), .val (.int u4), .val (.int u5), .val (.int xi), .val (.int xj), .val (.int xk), .val (.ref b5), .val (.long z), .second] [])) (show (256 : Int64) = (if ((fIn xk) = (0 : Int32)) then ((256 : Int64) + ((u5 &&& (255 : Int32)).toInt64)) else (256 : Int64)) by rw [if_neg h15])) k)
  refine OFin.go J14 ?_
  have S16 : ∀ t, Steps p.tables e below (T13.setTop (mkF m 87 #[.val (.int u0), .val (.int u1), .val (.int u2), .val (.int u3), .val (.int u4), .val (.int u5), .val (.int xi), .val (.int xj), .val (.int xk), .val (.ref b5), .val (.long (if ((fIn xk) = (0 : Int32)) then ((256 : Int64) + ((u5 &&& (255 : Int32)).toInt64)) else (256 : Int64))), .second] [(.int xj)])) t → Steps p.tables e below (T13.setTop (mkF m 85 #[.val (.int u0), .val (.int u1), .val (.int u2), .val (.int u3), .val (.int u4), .val (.int u5), .val (.int xi), .val (.int xj), .val (.int xk), .val (.ref b5), .val (.long (if ((fIn xk) = (0 : Int32)) then ((256 : Int64) + ((u5 &&& (255 : Int32)).toInt64)) else (256 : Int64))), .second] [])) t := by
    intro t k
    show Steps p.tables e below (T13.setTop (mkF m 85 #[.val (.int u0), .val (.int u1), .val (.int u2), .val (.int u3), .val (.int u4), .val (.int u5), .val (.int xi), .val (.int xj), .val (.int xk), .val (.ref b5), .val (.long (if ((fIn xk) = (0 : Int32)) then ((256 : Int64) + ((u5 &&& (255 : Int32)).toInt64)) else (256 : Int64))), .second] [])) t
    refine XS.iload X13.here hx rfl (hb hby at_85) rfl ?_
    exact k
  refine OFin.go S16 ?_
  obtain ⟨_, T17, Lc17, X17, hQ17, st17⟩ := callQ X13 hx hZ (y := (⟨"com/example/stowage/stowage/core/TarChecksumPinLaw", "inField", "(I)Z"⟩ : MethodName)) hown (hw _ (List.mem_of_getElem? (i := 3) rfl)) (hw _ (List.mem_of_getElem? (i := 4) rfl)) (hw _ (List.mem_of_getElem? (i := 5) rfl)) (hw _ (List.mem_of_getElem? (i := 6) rfl)) (by decide) (argsL := [(.int xj)]) (rest := []) (rm1 l Z a0 hw [] xj h11 n0 Z11) (W := 0) (by decide) (by decide) e13 (g := (mkF m 87 #[.val (.int u0), .val (.int u1), .val (.int u2), .val (.int u3), .val (.int u4), .val (.int u5), .val (.int xi), .val (.int xj), .val (.int xk), .val (.ref b5), .val (.long (if ((fIn xk) = (0 : Int32)) then ((256 : Int64) + ((u5 &&& (255 : Int32)).toInt64)) else (256 : Int64))), .second] [(.int xj)])) rfl (by rw [hml]; rfl) (lenOf pd_0 rfl) rfl (by show 2 * 0 + _ ≤ _; exact Nat.le_of_eq rfl) (hb hby at_87) (Nat.le_of_ble_eq_true rfl) (Nat.le_of_ble_eq_true rfl)
  obtain ⟨rfl, N17q, e17⟩ := hQ17
  have N17 := Fr.app N13 N17q
  refine OFin.go st17 ?_
  show OFin p e below _ (T17.setTop (mkF m 90 #[.val (.int u0), .val (.int u1), .val (.int u2), .val (.int u3), .val (.int u4), .val (.int u5), .val (.int xi), .val (.int xj), .val (.int xk), .val (.ref b5), .val (.long (if ((fIn xk) = (0 : Int32)) then ((256 : Int64) + ((u5 &&& (255 : Int32)).toInt64)) else (256 : Int64))), .second] [(.int (fIn xj))]))
  have J18 : ∀ t, Steps p.tables e below (T17.setTop (mkF m 111 #[.val (.int u0), .val (.int u1), .val (.int u2), .val (.int u3), .val (.int u4), .val (.int u5), .val (.int xi), .val (.int xj), .val (.int xk), .val (.ref b5), .val (.long (if ((fIn xj) = (0 : Int32)) then (if (xj = xk) then (if ((fIn xk) = (0 : Int32)) then ((256 : Int64) + ((u5 &&& (255 : Int32)).toInt64)) else (256 : Int64)) else ((if ((fIn xk) = (0 : Int32)) then ((256 : Int64) + ((u5 &&& (255 : Int32)).toInt64)) else (256 : Int64)) + ((u3 &&& (255 : Int32)).toInt64))) else (if ((fIn xk) = (0 : Int32)) then ((256 : Int64) + ((u5 &&& (255 : Int32)).toInt64)) else (256 : Int64)))), .second] [])) t → Steps p.tables e below (T17.setTop (mkF m 90 #[.val (.int u0), .val (.int u1), .val (.int u2), .val (.int u3), .val (.int u4), .val (.int u5), .val (.int xi), .val (.int xj), .val (.int xk), .val (.ref b5), .val (.long (if ((fIn xk) = (0 : Int32)) then ((256 : Int64) + ((u5 &&& (255 : Int32)).toInt64)) else (256 : Int64))), .second] [(.int (fIn xj))])) t := by
    intro t k
    show Steps p.tables e below (T17.setTop (mkF m 90 #[.val (.int u0), .val (.int u1), .val (.int u2), .val (.int u3), .val (.int u4), .val (.int u5), .val (.int xi), .val (.int xj), .val (.int xk), .val (.ref b5), .val (.long (if ((fIn xk) = (0 : Int32)) then ((256 : Int64) + ((u5 &&& (255 : Int32)).toInt64)) else (256 : Int64))), .second] [(.int (fIn xj))])) t
    by_cases h19 : ((fIn xj) = (0 : Int32))
    · refine XS.ifNo X17.here hx rfl (hb hby at_90) rfl ((if0 _ _).trans (teq h19).2) ?_
      show Steps p.tables e below (T17.setTop (mkF m 93 #[.val (.int u0), .val (.int u1), .val (.int u2), .val (.int u3), .val (.int u4), .val (.int u5), .val (.int xi), .val (.int xj), .val (.int xk), .val (.ref b5), .val (.long (if ((fIn xk) = (0 : Int32)) then ((256 : Int64) + ((u5 &&& (255 : Int32)).toInt64)) else (256 : Int64))), .second] [])) t
      refine XS.iload X17.here hx rfl (hb hby at_93) rfl ?_
      show Steps p.tables e below (T17.setTop (mkF m 95 #[.val (.int u0), .val (.int u1), .val (.int u2), .val (.int u3), .val (.int u4), .val (.int u5), .val (.int xi), .val (.int xj), .val (.int xk), .val (.ref b5), .val (.long (if ((fIn xk) = (0 : Int32)) then ((256 : Int64) + ((u5 &&& (255 : Int32)).toInt64)) else (256 : Int64))), .second] [(.int xj)])) t
      refine XS.iload X17.here hx rfl (hb hby at_95) rfl ?_
      show Steps p.tables e below (T17.setTop (mkF m 97 #[.val (.int u0), .val (.int u1), .val (.int u2), .val (.int u3), .val (.int u4), .val (.int u5), .val (.int xi), .val (.int xj), .val (.int xk), .val (.ref b5), .val (.long (if ((fIn xk) = (0 : Int32)) then ((256 : Int64) + ((u5 &&& (255 : Int32)).toInt64)) else (256 : Int64))), .second] [(.int xk), (.int xj)])) t
      by_cases h20 : (xj = xk)
      · refine XS.icmpYes X17.here hx rfl (pc0 := 97) (pc' := 111) rfl (hb hby at_97) rfl (teq h20).1 (by decide) (by decide) ?_
        show Steps p.tables e below (T17.setTop (mkF m 111 #[.val (.int u0), .val (.int u1), .val (.int u2), .val (.int u3), .val (.int u4), .val (.int u5), .val (.int xi), .val (.int xj), .val (.int xk), .val (.ref b5), .val (.long (if ((fIn xk) = (0 : Int32)) then ((256 : Int64) + ((u5 &&& (255 : Int32)).toInt64)) else (256 : Int64))), .second] [])) t
        exact (castTop (congrArg (fun z => (mkF m 111 #[.val (.int u0), .val (.int u1), .val (.int u2), .val (.int u3), .val (.int u4), .val (.int u5), .val (.int xi), .val (.int xj), .val (.int xk), .val (.ref b5), .val (.long z), .second] [])) (show (if ((fIn xk) = (0 : Int32)) then ((256 : Int64) + ((u5 &&& (255 : Int32)).toInt64)) else (256 : Int64)) = (if ((fIn xj) = (0 : Int32)) then (if (xj = xk) then (if ((fIn xk) = (0 : Int32)) then ((256 : Int64) + ((u5 &&& (255 : Int32)).toInt64)) else (256 : Int64)) else ((if ((fIn xk) = (0 : Int32)) then ((256 : Int64) + ((u5 &&& (255 : Int32)).toInt64)) else (256 : Int64)) + ((u3 &&& (255 : Int32)).toInt64))) else (if ((fIn xk) = (0 : Int32)) then ((256 : Int64) + ((u5 &&& (255 : Int32)).toInt64)) else (256 : Int64))) by rw [if_pos h19, if_pos h20])) k)
      · refine XS.icmpNo X17.here hx rfl (hb hby at_97) rfl (feq h20).1 ?_
        show Steps p.tables e below (T17.setTop (mkF m 100 #[.val (.int u0), .val (.int u1), .val (.int u2), .val (.int u3), .val (.int u4), .val (.int u5), .val (.int xi), .val (.int xj), .val (.int xk), .val (.ref b5), .val (.long (if ((fIn xk) = (0 : Int32)) then ((256 : Int64) + ((u5 &&& (255 : Int32)).toInt64)) else (256 : Int64))), .second] [])) t
        refine XS.lload X17.here hx rfl (hb hby at_100) rfl ?_
        show Steps p.tables e below (T17.setTop (mkF m 102 #[.val (.int u0), .val (.int u1), .val (.int u2), .val (.int u3), .val (.int u4), .val (.int u5), .val (.int xi), .val (.int xj), .val (.int xk), .val (.ref b5), .val (.long (if ((fIn xk) = (0 : Int32)) then ((256 : Int64) + ((u5 &&& (255 : Int32)).toInt64)) else (256 : Int64))), .second] [(.long (if ((fIn xk) = (0 : Int32)) then ((256 : Int64) + ((u5 &&& (255 : Int32)).toInt64)) else (256 : Int64)))])) t
        refine XS.iloadN X17.here hx rfl (hb hby at_102) rfl ?_
        show Steps p.tables e below (T17.setTop (mkF m 103 #[.val (.int u0), .val (.int u1), .val (.int u2), .val (.int u3), .val (.int u4), .val (.int u5), .val (.int xi), .val (.int xj), .val (.int xk), .val (.ref b5), .val (.long (if ((fIn xk) = (0 : Int32)) then ((256 : Int64) + ((u5 &&& (255 : Int32)).toInt64)) else (256 : Int64))), .second] [(.int u3), (.long (if ((fIn xk) = (0 : Int32)) then ((256 : Int64) + ((u5 &&& (255 : Int32)).toInt64)) else (256 : Int64)))])) t
        refine XS.sipush X17.here hx rfl (hb hby at_103) ?_
        show Steps p.tables e below (T17.setTop (mkF m 106 #[.val (.int u0), .val (.int u1), .val (.int u2), .val (.int u3), .val (.int u4), .val (.int u5), .val (.int xi), .val (.int xj), .val (.int xk), .val (.ref b5), .val (.long (if ((fIn xk) = (0 : Int32)) then ((256 : Int64) + ((u5 &&& (255 : Int32)).toInt64)) else (256 : Int64))), .second] [(.int (255 : Int32)), (.int u3), (.long (if ((fIn xk) = (0 : Int32)) then ((256 : Int64) + ((u5 &&& (255 : Int32)).toInt64)) else (256 : Int64)))])) t
        refine XS.iand X17.here hx rfl (hb hby at_106) rfl ?_
        show Steps p.tables e below (T17.setTop (mkF m 107 #[.val (.int u0), .val (.int u1), .val (.int u2), .val (.int u3), .val (.int u4), .val (.int u5), .val (.int xi), .val (.int xj), .val (.int xk), .val (.ref b5), .val (.long (if ((fIn xk) = (0 : Int32)) then ((256 : Int64) + ((u5 &&& (255 : Int32)).toInt64)) else (256 : Int64))), .second] [(.int (u3 &&& (255 : Int32))), (.long (if ((fIn xk) = (0 : Int32)) then ((256 : Int64) + ((u5 &&& (255 : Int32)).toInt64)) else (256 : Int64)))])) t
        refine XS.i2l X17.here hx rfl (hb hby at_107) rfl ?_
        show Steps p.tables e below (T17.setTop (mkF m 108 #[.val (.int u0), .val (.int u1), .val (.int u2), .val (.int u3), .val (.int u4), .val (.int u5), .val (.int xi), .val (.int xj), .val (.int xk), .val (.ref b5), .val (.long (if ((fIn xk) = (0 : Int32)) then ((256 : Int64) + ((u5 &&& (255 : Int32)).toInt64)) else (256 : Int64))), .second] [(.long ((u3 &&& (255 : Int32)).toInt64)), (.long (if ((fIn xk) = (0 : Int32)) then ((256 : Int64) + ((u5 &&& (255 : Int32)).toInt64)) else (256 : Int64)))])) t
        refine XS.ladd X17.here hx rfl (hb hby at_108) rfl ?_
        show Steps p.tables e below (T17.setTop (mkF m 109 #[.val (.int u0), .val (.int u1), .val (.int u2), .val (.int u3), .val (.int u4), .val (.int u5), .val (.int xi), .val (.int xj), .val (.int xk), .val (.ref b5), .val (.long (if ((fIn xk) = (0 : Int32)) then ((256 : Int64) + ((u5 &&& (255 : Int32)).toInt64)) else (256 : Int64))), .second] [(.long ((if ((fIn xk) = (0 : Int32)) then ((256 : Int64) + ((u5 &&& (255 : Int32)).toInt64)) else (256 : Int64)) + ((u3 &&& (255 : Int32)).toInt64)))])) t
        refine XS.lstore X17.here hx rfl (hb hby at_109) rfl (l' := #[.val (.int u0), .val (.int u1), .val (.int u2), .val (.int u3), .val (.int u4), .val (.int u5), .val (.int xi), .val (.int xj), .val (.int xk), .val (.ref b5), .val (.long ((if ((fIn xk) = (0 : Int32)) then ((256 : Int64) + ((u5 &&& (255 : Int32)).toInt64)) else (256 : Int64)) + ((u3 &&& (255 : Int32)).toInt64))), .second]) rfl ?_
        show Steps p.tables e below (T17.setTop (mkF m 111 #[.val (.int u0), .val (.int u1), .val (.int u2), .val (.int u3), .val (.int u4), .val (.int u5), .val (.int xi), .val (.int xj), .val (.int xk), .val (.ref b5), .val (.long ((if ((fIn xk) = (0 : Int32)) then ((256 : Int64) + ((u5 &&& (255 : Int32)).toInt64)) else (256 : Int64)) + ((u3 &&& (255 : Int32)).toInt64))), .second] [])) t
        exact (castTop (congrArg (fun z => (mkF m 111 #[.val (.int u0), .val (.int u1), .val (.int u2), .val (.int u3), .val (.int u4), .val (.int u5), .val (.int xi), .val (.int xj), .val (.int xk), .val (.ref b5), .val (.long z), .second] [])) (show ((if ((fIn xk) = (0 : Int32)) then ((256 : Int64) + ((u5 &&& (255 : Int32)).toInt64)) else (256 : Int64)) + ((u3 &&& (255 : Int32)).toInt64)) = (if ((fIn xj) = (0 : Int32)) then (if (xj = xk) then (if ((fIn xk) = (0 : Int32)) then ((256 : Int64) + ((u5 &&& (255 : Int32)).toInt64)) else (256 : Int64)) else ((if ((fIn xk) = (0 : Int32)) then ((256 : Int64) + ((u5 &&& (255 : Int32)).toInt64)) else (256 : Int64)) + ((u3 &&& (255 : Int32)).toInt64))) else (if ((fIn xk) = (0 : Int32)) then ((256 : Int64) + ((u5 &&& (255 : Int32)).toInt64)) else (256 : Int64))) by rw [if_pos h19, if_neg h20])) k)
    · refine XS.ifYes X17.here hx rfl (pc0 := 90) (pc' := 111) rfl (hb hby at_90) rfl ((if0 _ _).trans (feq h19).2) (by decide) (by decide) ?_
      show Steps p.tables e below (T17.setTop (mkF m 111 #[.val (.int u0), .val (.int u1), .val (.int u2), .val (.int u3), .val (.int u4), .val (.int u5), .val (.int xi), .val (.int xj), .val (.int xk), .val (.ref b5), .val (.long (if ((fIn xk) = (0 : Int32)) then ((256 : Int64) + ((u5 &&& (255 : Int32)).toInt64)) else (256 : Int64))), .second] [])) t
      exact (castTop (congrArg (fun z => (mkF m 111 #[.val (.int u0), .val (.int u1), .val (.int u2), .val (.int u3), .val (.int u4), .val (.int u5), .val (.int xi), .val (.int xj), .val (.int xk), .val (.ref b5), .val (.long z), .second] [])) (show (if ((fIn xk) = (0 : Int32)) then ((256 : Int64) + ((u5 &&& (255 : Int32)).toInt64)) else (256 : Int64)) = (if ((fIn xj) = (0 : Int32)) then (if (xj = xk) then (if ((fIn xk) = (0 : Int32)) then ((256 : Int64) + ((u5 &&& (255 : Int32)).toInt64)) else (256 : Int64)) else ((if ((fIn xk) = (0 : Int32)) then ((256 : Int64) + ((u5 &&& (255 : Int32)).toInt64)) else (256 : Int64)) + ((u3 &&& (255 : Int32)).toInt64))) else (if ((fIn xk) = (0 : Int32)) then ((256 : Int64) + ((u5 &&& (255 : Int32)).toInt64)) else (256 : Int64))) by rw [if_neg h19])) k)
  refine OFin.go J18 ?_
  have S21 : ∀ t, Steps p.tables e below (T17.setTop (mkF m 113 #[.val (.int u0), .val (.int u1), .val (.int u2), .val (.int u3), .val (.int u4), .val (.int u5), .val (.int xi), .val (.int xj), .val (.int xk), .val (.ref b5), .val (.long (if ((fIn xj) = (0 : Int32)) then (if (xj = xk) then (if ((fIn xk) = (0 : Int32)) then ((256 : Int64) + ((u5 &&& (255 : Int32)).toInt64)) else (256 : Int64)) else ((if ((fIn xk) = (0 : Int32)) then ((256 : Int64) + ((u5 &&& (255 : Int32)).toInt64)) else (256 : Int64)) + ((u3 &&& (255 : Int32)).toInt64))) else (if ((fIn xk) = (0 : Int32)) then ((256 : Int64) + ((u5 &&& (255 : Int32)).toInt64)) else (256 : Int64)))), .second] [(.int xi)])) t → Steps p.tables e below (T17.setTop (mkF m 111 #[.val (.int u0), .val (.int u1), .val (.int u2), .val (.int u3), .val (.int u4), .val (.int u5), .val (.int xi), .val (.int xj), .val (.int xk), .val (.ref b5), .val (.long (if ((fIn xj) = (0 : Int32)) then (if (xj = xk) then (if ((fIn xk) = (0 : Int32)) then ((256 : Int64) + ((u5 &&& (255 : Int32)).toInt64)) else (256 : Int64)) else ((if ((fIn xk) = (0 : Int32)) then ((256 : Int64) + ((u5 &&& (255 : Int32)).toInt64)) else (256 : Int64)) + ((u3 &&& (255 : Int32)).toInt64))) else (if ((fIn xk) = (0 : Int32)) then ((256 : Int64) + ((u5 &&& (255 : Int32)).toInt64)) else (256 : Int64)))), .second] [])) t := by
    intro t k
    show Steps p.tables e below (T17.setTop (mkF m 111 #[.val (.int u0), .val (.int u1), .val (.int u2), .val (.int u3), .val (.int u4), .val (.int u5), .val (.int xi), .val (.int xj), .val (.int xk), .val (.ref b5), .val (.long (if ((fIn xj) = (0 : Int32)) then (if (xj = xk) then (if ((fIn xk) = (0 : Int32)) then ((256 : Int64) + ((u5 &&& (255 : Int32)).toInt64)) else (256 : Int64)) else ((if ((fIn xk) = (0 : Int32)) then ((256 : Int64) + ((u5 &&& (255 : Int32)).toInt64)) else (256 : Int64)) + ((u3 &&& (255 : Int32)).toInt64))) else (if ((fIn xk) = (0 : Int32)) then ((256 : Int64) + ((u5 &&& (255 : Int32)).toInt64)) else (256 : Int64)))), .second] [])) t
    refine XS.iload X17.here hx rfl (hb hby at_111) rfl ?_
    exact k
  refine OFin.go S21 ?_
  obtain ⟨_, T22, Lc22, X22, hQ22, st22⟩ := callQ X17 hx hZ (y := (⟨"com/example/stowage/stowage/core/TarChecksumPinLaw", "inField", "(I)Z"⟩ : MethodName)) hown (hw _ (List.mem_of_getElem? (i := 3) rfl)) (hw _ (List.mem_of_getElem? (i := 4) rfl)) (hw _ (List.mem_of_getElem? (i := 5) rfl)) (hw _ (List.mem_of_getElem? (i := 6) rfl)) (by decide) (argsL := [(.int xi)]) (rest := []) (rm1 l Z a0 hw [] xi h11 n0 Z11) (W := 0) (by decide) (by decide) e17 (g := (mkF m 113 #[.val (.int u0), .val (.int u1), .val (.int u2), .val (.int u3), .val (.int u4), .val (.int u5), .val (.int xi), .val (.int xj), .val (.int xk), .val (.ref b5), .val (.long (if ((fIn xj) = (0 : Int32)) then (if (xj = xk) then (if ((fIn xk) = (0 : Int32)) then ((256 : Int64) + ((u5 &&& (255 : Int32)).toInt64)) else (256 : Int64)) else ((if ((fIn xk) = (0 : Int32)) then ((256 : Int64) + ((u5 &&& (255 : Int32)).toInt64)) else (256 : Int64)) + ((u3 &&& (255 : Int32)).toInt64))) else (if ((fIn xk) = (0 : Int32)) then ((256 : Int64) + ((u5 &&& (255 : Int32)).toInt64)) else (256 : Int64)))), .second] [(.int xi)])) rfl (by rw [hml]; rfl) (lenOf pd_0 rfl) rfl (by show 2 * 0 + _ ≤ _; exact Nat.le_of_eq rfl) (hb hby at_113) (Nat.le_of_ble_eq_true rfl) (Nat.le_of_ble_eq_true rfl)
  obtain ⟨rfl, N22q, e22⟩ := hQ22
  have N22 := Fr.app N17 N22q
  refine OFin.go st22 ?_
  show OFin p e below _ (T22.setTop (mkF m 116 #[.val (.int u0), .val (.int u1), .val (.int u2), .val (.int u3), .val (.int u4), .val (.int u5), .val (.int xi), .val (.int xj), .val (.int xk), .val (.ref b5), .val (.long (if ((fIn xj) = (0 : Int32)) then (if (xj = xk) then (if ((fIn xk) = (0 : Int32)) then ((256 : Int64) + ((u5 &&& (255 : Int32)).toInt64)) else (256 : Int64)) else ((if ((fIn xk) = (0 : Int32)) then ((256 : Int64) + ((u5 &&& (255 : Int32)).toInt64)) else (256 : Int64)) + ((u3 &&& (255 : Int32)).toInt64))) else (if ((fIn xk) = (0 : Int32)) then ((256 : Int64) + ((u5 &&& (255 : Int32)).toInt64)) else (256 : Int64)))), .second] [(.int (fIn xi))]))
  have J23 : ∀ t, Steps p.tables e below (T22.setTop (mkF m 144 #[.val (.int u0), .val (.int u1), .val (.int u2), .val (.int u3), .val (.int u4), .val (.int u5), .val (.int xi), .val (.int xj), .val (.int xk), .val (.ref b5), .val (.long (if ((fIn xi) = (0 : Int32)) then (if (xi = xj) then (if ((fIn xj) = (0 : Int32)) then (if (xj = xk) then (if ((fIn xk) = (0 : Int32)) then ((256 : Int64) + ((u5 &&& (255 : Int32)).toInt64)) else (256 : Int64)) else ((if ((fIn xk) = (0 : Int32)) then ((256 : Int64) + ((u5 &&& (255 : Int32)).toInt64)) else (256 : Int64)) + ((u3 &&& (255 : Int32)).toInt64))) else (if ((fIn xk) = (0 : Int32)) then ((256 : Int64) + ((u5 &&& (255 : Int32)).toInt64)) else (256 : Int64))) else (if (xi = xk) then (if ((fIn xj) = (0 : Int32)) then (if (xj = xk) then (if ((fIn xk) = (0 : Int32)) then ((256 : Int64) + ((u5 &&& (255 : Int32)).toInt64)) else (256 : Int64)) else ((if ((fIn xk) = (0 : Int32)) then ((256 : Int64) + ((u5 &&& (255 : Int32)).toInt64)) else (256 : Int64)) + ((u3 &&& (255 : Int32)).toInt64))) else (if ((fIn xk) = (0 : Int32)) then ((256 : Int64) + ((u5 &&& (255 : Int32)).toInt64)) else (256 : Int64))) else ((if ((fIn xj) = (0 : Int32)) then (if (xj = xk) then (if ((fIn xk) = (0 : Int32)) then ((256 : Int64) + ((u5 &&& (255 : Int32)).toInt64)) else (256 : Int64)) else ((if ((fIn xk) = (0 : Int32)) then ((256 : Int64) + ((u5 &&& (255 : Int32)).toInt64)) else (256 : Int64)) + ((u3 &&& (255 : Int32)).toInt64))) else (if ((fIn xk) = (0 : Int32)) then ((256 : Int64) + ((u5 &&& (255 : Int32)).toInt64)) else (256 : Int64))) + ((u1 &&& (255 : Int32)).toInt64)))) else (if ((fIn xj) = (0 : Int32)) then (if (xj = xk) then (if ((fIn xk) = (0 : Int32)) then ((256 : Int64) + ((u5 &&& (255 : Int32)).toInt64)) else (256 : Int64)) else ((if ((fIn xk) = (0 : Int32)) then ((256 : Int64) + ((u5 &&& (255 : Int32)).toInt64)) else (256 : Int64)) + ((u3 &&& (255 : Int32)).toInt64))) else (if ((fIn xk) = (0 : Int32)) then ((256 : Int64) + ((u5 &&& (255 : Int32)).toInt64)) else (256 : Int64))))), .second] [])) t → Steps p.tables e below (T22.setTop (mkF m 116 #[.val (.int u0), .val (.int u1), .val (.int u2), .val (.int u3), .val (.int u4), .val (.int u5), .val (.int xi), .val (.int xj), .val (.int xk), .val (.ref b5), .val (.long (if ((fIn xj) = (0 : Int32)) then (if (xj = xk) then (if ((fIn xk) = (0 : Int32)) then ((256 : Int64) + ((u5 &&& (255 : Int32)).toInt64)) else (256 : Int64)) else ((if ((fIn xk) = (0 : Int32)) then ((256 : Int64) + ((u5 &&& (255 : Int32)).toInt64)) else (256 : Int64)) + ((u3 &&& (255 : Int32)).toInt64))) else (if ((fIn xk) = (0 : Int32)) then ((256 : Int64) + ((u5 &&& (255 : Int32)).toInt64)) else (256 : Int64)))), .second] [(.int (fIn xi))])) t := by
    intro t k
    show Steps p.tables e below (T22.setTop (mkF m 116 #[.val (.int u0), .val (.int u1), .val (.int u2), .val (.int u3), .val (.int u4), .val (.int u5), .val (.int xi), .val (.int xj), .val (.int xk), .val (.ref b5), .val (.long (if ((fIn xj) = (0 : Int32)) then (if (xj = xk) then (if ((fIn xk) = (0 : Int32)) then ((256 : Int64) + ((u5 &&& (255 : Int32)).toInt64)) else (256 : Int64)) else ((if ((fIn xk) = (0 : Int32)) then ((256 : Int64) + ((u5 &&& (255 : Int32)).toInt64)) else (256 : Int64)) + ((u3 &&& (255 : Int32)).toInt64))) else (if ((fIn xk) = (0 : Int32)) then ((256 : Int64) + ((u5 &&& (255 : Int32)).toInt64)) else (256 : Int64)))), .second] [(.int (fIn xi))])) t
    by_cases h24 : ((fIn xi) = (0 : Int32))
    · refine XS.ifNo X22.here hx rfl (hb hby at_116) rfl ((if0 _ _).trans (teq h24).2) ?_
      show Steps p.tables e below (T22.setTop (mkF m 119 #[.val (.int u0), .val (.int u1), .val (.int u2), .val (.int u3), .val (.int u4), .val (.int u5), .val (.int xi), .val (.int xj), .val (.int xk), .val (.ref b5), .val (.long (if ((fIn xj) = (0 : Int32)) then (if (xj = xk) then (if ((fIn xk) = (0 : Int32)) then ((256 : Int64) + ((u5 &&& (255 : Int32)).toInt64)) else (256 : Int64)) else ((if ((fIn xk) = (0 : Int32)) then ((256 : Int64) + ((u5 &&& (255 : Int32)).toInt64)) else (256 : Int64)) + ((u3 &&& (255 : Int32)).toInt64))) else (if ((fIn xk) = (0 : Int32)) then ((256 : Int64) + ((u5 &&& (255 : Int32)).toInt64)) else (256 : Int64)))), .second] [])) t
      refine XS.iload X22.here hx rfl (hb hby at_119) rfl ?_
      show Steps p.tables e below (T22.setTop (mkF m 121 #[.val (.int u0), .val (.int u1), .val (.int u2), .val (.int u3), .val (.int u4), .val (.int u5), .val (.int xi), .val (.int xj), .val (.int xk), .val (.ref b5), .val (.long (if ((fIn xj) = (0 : Int32)) then (if (xj = xk) then (if ((fIn xk) = (0 : Int32)) then ((256 : Int64) + ((u5 &&& (255 : Int32)).toInt64)) else (256 : Int64)) else ((if ((fIn xk) = (0 : Int32)) then ((256 : Int64) + ((u5 &&& (255 : Int32)).toInt64)) else (256 : Int64)) + ((u3 &&& (255 : Int32)).toInt64))) else (if ((fIn xk) = (0 : Int32)) then ((256 : Int64) + ((u5 &&& (255 : Int32)).toInt64)) else (256 : Int64)))), .second] [(.int xi)])) t
      refine XS.iload X22.here hx rfl (hb hby at_121) rfl ?_
      show Steps p.tables e below (T22.setTop (mkF m 123 #[.val (.int u0), .val (.int u1), .val (.int u2), .val (.int u3), .val (.int u4), .val (.int u5), .val (.int xi), .val (.int xj), .val (.int xk), .val (.ref b5), .val (.long (if ((fIn xj) = (0 : Int32)) then (if (xj = xk) then (if ((fIn xk) = (0 : Int32)) then ((256 : Int64) + ((u5 &&& (255 : Int32)).toInt64)) else (256 : Int64)) else ((if ((fIn xk) = (0 : Int32)) then ((256 : Int64) + ((u5 &&& (255 : Int32)).toInt64)) else (256 : Int64)) + ((u3 &&& (255 : Int32)).toInt64))) else (if ((fIn xk) = (0 : Int32)) then ((256 : Int64) + ((u5 &&& (255 : Int32)).toInt64)) else (256 : Int64)))), .second] [(.int xj), (.int xi)])) t
      by_cases h25 : (xi = xj)
      · refine XS.icmpYes X22.here hx rfl (pc0 := 123) (pc' := 144) rfl (hb hby at_123) rfl (teq h25).1 (by decide) (by decide) ?_
        show Steps p.tables e below (T22.setTop (mkF m 144 #[.val (.int u0), .val (.int u1), .val (.int u2), .val (.int u3), .val (.int u4), .val (.int u5), .val (.int xi), .val (.int xj), .val (.int xk), .val (.ref b5), .val (.long (if ((fIn xj) = (0 : Int32)) then (if (xj = xk) then (if ((fIn xk) = (0 : Int32)) then ((256 : Int64) + ((u5 &&& (255 : Int32)).toInt64)) else (256 : Int64)) else ((if ((fIn xk) = (0 : Int32)) then ((256 : Int64) + ((u5 &&& (255 : Int32)).toInt64)) else (256 : Int64)) + ((u3 &&& (255 : Int32)).toInt64))) else (if ((fIn xk) = (0 : Int32)) then ((256 : Int64) + ((u5 &&& (255 : Int32)).toInt64)) else (256 : Int64)))), .second] [])) t
        exact (castTop (congrArg (fun z => (mkF m 144 #[.val (.int u0), .val (.int u1), .val (.int u2), .val (.int u3), .val (.int u4), .val (.int u5), .val (.int xi), .val (.int xj), .val (.int xk), .val (.ref b5), .val (.long z), .second] [])) (show (if ((fIn xj) = (0 : Int32)) then (if (xj = xk) then (if ((fIn xk) = (0 : Int32)) then ((256 : Int64) + ((u5 &&& (255 : Int32)).toInt64)) else (256 : Int64)) else ((if ((fIn xk) = (0 : Int32)) then ((256 : Int64) + ((u5 &&& (255 : Int32)).toInt64)) else (256 : Int64)) + ((u3 &&& (255 : Int32)).toInt64))) else (if ((fIn xk) = (0 : Int32)) then ((256 : Int64) + ((u5 &&& (255 : Int32)).toInt64)) else (256 : Int64))) = (if ((fIn xi) = (0 : Int32)) then (if (xi = xj) then (if ((fIn xj) = (0 : Int32)) then (if (xj = xk) then (if ((fIn xk) = (0 : Int32)) then ((256 : Int64) + ((u5 &&& (255 : Int32)).toInt64)) else (256 : Int64)) else ((if ((fIn xk) = (0 : Int32)) then ((256 : Int64) + ((u5 &&& (255 : Int32)).toInt64)) else (256 : Int64)) + ((u3 &&& (255 : Int32)).toInt64))) else (if ((fIn xk) = (0 : Int32)) then ((256 : Int64) + ((u5 &&& (255 : Int32)).toInt64)) else (256 : Int64))) else (if (xi = xk) then (if ((fIn xj) = (0 : Int32)) then (if (xj = xk) then (if ((fIn xk) = (0 : Int32)) then ((256 : Int64) + ((u5 &&& (255 : Int32)).toInt64)) else (256 : Int64)) else ((if ((fIn xk) = (0 : Int32)) then ((256 : Int64) + ((u5 &&& (255 : Int32)).toInt64)) else (256 : Int64)) + ((u3 &&& (255 : Int32)).toInt64))) else (if ((fIn xk) = (0 : Int32)) then ((256 : Int64) + ((u5 &&& (255 : Int32)).toInt64)) else (256 : Int64))) else ((if ((fIn xj) = (0 : Int32)) then (if (xj = xk) then (if ((fIn xk) = (0 : Int32)) then ((256 : Int64) + ((u5 &&& (255 : Int32)).toInt64)) else (256 : Int64)) else ((if ((fIn xk) = (0 : Int32)) then ((256 : Int64) + ((u5 &&& (255 : Int32)).toInt64)) else (256 : Int64)) + ((u3 &&& (255 : Int32)).toInt64))) else (if ((fIn xk) = (0 : Int32)) then ((256 : Int64) + ((u5 &&& (255 : Int32)).toInt64)) else (256 : Int64))) + ((u1 &&& (255 : Int32)).toInt64)))) else (if ((fIn xj) = (0 : Int32)) then (if (xj = xk) then (if ((fIn xk) = (0 : Int32)) then ((256 : Int64) + ((u5 &&& (255 : Int32)).toInt64)) else (256 : Int64)) else ((if ((fIn xk) = (0 : Int32)) then ((256 : Int64) + ((u5 &&& (255 : Int32)).toInt64)) else (256 : Int64)) + ((u3 &&& (255 : Int32)).toInt64))) else (if ((fIn xk) = (0 : Int32)) then ((256 : Int64) + ((u5 &&& (255 : Int32)).toInt64)) else (256 : Int64)))) by rw [if_pos h24, if_pos h25])) k)
      · refine XS.icmpNo X22.here hx rfl (hb hby at_123) rfl (feq h25).1 ?_
        show Steps p.tables e below (T22.setTop (mkF m 126 #[.val (.int u0), .val (.int u1), .val (.int u2), .val (.int u3), .val (.int u4), .val (.int u5), .val (.int xi), .val (.int xj), .val (.int xk), .val (.ref b5), .val (.long (if ((fIn xj) = (0 : Int32)) then (if (xj = xk) then (if ((fIn xk) = (0 : Int32)) then ((256 : Int64) + ((u5 &&& (255 : Int32)).toInt64)) else (256 : Int64)) else ((if ((fIn xk) = (0 : Int32)) then ((256 : Int64) + ((u5 &&& (255 : Int32)).toInt64)) else (256 : Int64)) + ((u3 &&& (255 : Int32)).toInt64))) else (if ((fIn xk) = (0 : Int32)) then ((256 : Int64) + ((u5 &&& (255 : Int32)).toInt64)) else (256 : Int64)))), .second] [])) t
        refine XS.iload X22.here hx rfl (hb hby at_126) rfl ?_
        show Steps p.tables e below (T22.setTop (mkF m 128 #[.val (.int u0), .val (.int u1), .val (.int u2), .val (.int u3), .val (.int u4), .val (.int u5), .val (.int xi), .val (.int xj), .val (.int xk), .val (.ref b5), .val (.long (if ((fIn xj) = (0 : Int32)) then (if (xj = xk) then (if ((fIn xk) = (0 : Int32)) then ((256 : Int64) + ((u5 &&& (255 : Int32)).toInt64)) else (256 : Int64)) else ((if ((fIn xk) = (0 : Int32)) then ((256 : Int64) + ((u5 &&& (255 : Int32)).toInt64)) else (256 : Int64)) + ((u3 &&& (255 : Int32)).toInt64))) else (if ((fIn xk) = (0 : Int32)) then ((256 : Int64) + ((u5 &&& (255 : Int32)).toInt64)) else (256 : Int64)))), .second] [(.int xi)])) t
        refine XS.iload X22.here hx rfl (hb hby at_128) rfl ?_
        show Steps p.tables e below (T22.setTop (mkF m 130 #[.val (.int u0), .val (.int u1), .val (.int u2), .val (.int u3), .val (.int u4), .val (.int u5), .val (.int xi), .val (.int xj), .val (.int xk), .val (.ref b5), .val (.long (if ((fIn xj) = (0 : Int32)) then (if (xj = xk) then (if ((fIn xk) = (0 : Int32)) then ((256 : Int64) + ((u5 &&& (255 : Int32)).toInt64)) else (256 : Int64)) else ((if ((fIn xk) = (0 : Int32)) then ((256 : Int64) + ((u5 &&& (255 : Int32)).toInt64)) else (256 : Int64)) + ((u3 &&& (255 : Int32)).toInt64))) else (if ((fIn xk) = (0 : Int32)) then ((256 : Int64) + ((u5 &&& (255 : Int32)).toInt64)) else (256 : Int64)))), .second] [(.int xk), (.int xi)])) t
        by_cases h26 : (xi = xk)
        · refine XS.icmpYes X22.here hx rfl (pc0 := 130) (pc' := 144) rfl (hb hby at_130) rfl (teq h26).1 (by decide) (by decide) ?_
          show Steps p.tables e below (T22.setTop (mkF m 144 #[.val (.int u0), .val (.int u1), .val (.int u2), .val (.int u3), .val (.int u4), .val (.int u5), .val (.int xi), .val (.int xj), .val (.int xk), .val (.ref b5), .val (.long (if ((fIn xj) = (0 : Int32)) then (if (xj = xk) then (if ((fIn xk) = (0 : Int32)) then ((256 : Int64) + ((u5 &&& (255 : Int32)).toInt64)) else (256 : Int64)) else ((if ((fIn xk) = (0 : Int32)) then ((256 : Int64) + ((u5 &&& (255 : Int32)).toInt64)) else (256 : Int64)) + ((u3 &&& (255 : Int32)).toInt64))) else (if ((fIn xk) = (0 : Int32)) then ((256 : Int64) + ((u5 &&& (255 : Int32)).toInt64)) else (256 : Int64)))), .second] [])) t
          exact (castTop (congrArg (fun z => (mkF m 144 #[.val (.int u0), .val (.int u1), .val (.int u2), .val (.int u3), .val (.int u4), .val (.int u5), .val (.int xi), .val (.int xj), .val (.int xk), .val (.ref b5), .val (.long z), .second] [])) (show (if ((fIn xj) = (0 : Int32)) then (if (xj = xk) then (if ((fIn xk) = (0 : Int32)) then ((256 : Int64) + ((u5 &&& (255 : Int32)).toInt64)) else (256 : Int64)) else ((if ((fIn xk) = (0 : Int32)) then ((256 : Int64) + ((u5 &&& (255 : Int32)).toInt64)) else (256 : Int64)) + ((u3 &&& (255 : Int32)).toInt64))) else (if ((fIn xk) = (0 : Int32)) then ((256 : Int64) + ((u5 &&& (255 : Int32)).toInt64)) else (256 : Int64))) = (if ((fIn xi) = (0 : Int32)) then (if (xi = xj) then (if ((fIn xj) = (0 : Int32)) then (if (xj = xk) then (if ((fIn xk) = (0 : Int32)) then ((256 : Int64) + ((u5 &&& (255 : Int32)).toInt64)) else (256 : Int64)) else ((if ((fIn xk) = (0 : Int32)) then ((256 : Int64) + ((u5 &&& (255 : Int32)).toInt64)) else (256 : Int64)) + ((u3 &&& (255 : Int32)).toInt64))) else (if ((fIn xk) = (0 : Int32)) then ((256 : Int64) + ((u5 &&& (255 : Int32)).toInt64)) else (256 : Int64))) else (if (xi = xk) then (if ((fIn xj) = (0 : Int32)) then (if (xj = xk) then (if ((fIn xk) = (0 : Int32)) then ((256 : Int64) + ((u5 &&& (255 : Int32)).toInt64)) else (256 : Int64)) else ((if ((fIn xk) = (0 : Int32)) then ((256 : Int64) + ((u5 &&& (255 : Int32)).toInt64)) else (256 : Int64)) + ((u3 &&& (255 : Int32)).toInt64))) else (if ((fIn xk) = (0 : Int32)) then ((256 : Int64) + ((u5 &&& (255 : Int32)).toInt64)) else (256 : Int64))) else ((if ((fIn xj) = (0 : Int32)) then (if (xj = xk) then (if ((fIn xk) = (0 : Int32)) then ((256 : Int64) + ((u5 &&& (255 : Int32)).toInt64)) else (256 : Int64)) else ((if ((fIn xk) = (0 : Int32)) then ((256 : Int64) + ((u5 &&& (255 : Int32)).toInt64)) else (256 : Int64)) + ((u3 &&& (255 : Int32)).toInt64))) else (if ((fIn xk) = (0 : Int32)) then ((256 : Int64) + ((u5 &&& (255 : Int32)).toInt64)) else (256 : Int64))) + ((u1 &&& (255 : Int32)).toInt64)))) else (if ((fIn xj) = (0 : Int32)) then (if (xj = xk) then (if ((fIn xk) = (0 : Int32)) then ((256 : Int64) + ((u5 &&& (255 : Int32)).toInt64)) else (256 : Int64)) else ((if ((fIn xk) = (0 : Int32)) then ((256 : Int64) + ((u5 &&& (255 : Int32)).toInt64)) else (256 : Int64)) + ((u3 &&& (255 : Int32)).toInt64))) else (if ((fIn xk) = (0 : Int32)) then ((256 : Int64) + ((u5 &&& (255 : Int32)).toInt64)) else (256 : Int64)))) by rw [if_pos h24, if_neg h25, if_pos h26])) k)
        · refine XS.icmpNo X22.here hx rfl (hb hby at_130) rfl (feq h26).1 ?_
          show Steps p.tables e below (T22.setTop (mkF m 133 #[.val (.int u0), .val (.int u1), .val (.int u2), .val (.int u3), .val (.int u4), .val (.int u5), .val (.int xi), .val (.int xj), .val (.int xk), .val (.ref b5), .val (.long (if ((fIn xj) = (0 : Int32)) then (if (xj = xk) then (if ((fIn xk) = (0 : Int32)) then ((256 : Int64) + ((u5 &&& (255 : Int32)).toInt64)) else (256 : Int64)) else ((if ((fIn xk) = (0 : Int32)) then ((256 : Int64) + ((u5 &&& (255 : Int32)).toInt64)) else (256 : Int64)) + ((u3 &&& (255 : Int32)).toInt64))) else (if ((fIn xk) = (0 : Int32)) then ((256 : Int64) + ((u5 &&& (255 : Int32)).toInt64)) else (256 : Int64)))), .second] [])) t
          refine XS.lload X22.here hx rfl (hb hby at_133) rfl ?_
          show Steps p.tables e below (T22.setTop (mkF m 135 #[.val (.int u0), .val (.int u1), .val (.int u2), .val (.int u3), .val (.int u4), .val (.int u5), .val (.int xi), .val (.int xj), .val (.int xk), .val (.ref b5), .val (.long (if ((fIn xj) = (0 : Int32)) then (if (xj = xk) then (if ((fIn xk) = (0 : Int32)) then ((256 : Int64) + ((u5 &&& (255 : Int32)).toInt64)) else (256 : Int64)) else ((if ((fIn xk) = (0 : Int32)) then ((256 : Int64) + ((u5 &&& (255 : Int32)).toInt64)) else (256 : Int64)) + ((u3 &&& (255 : Int32)).toInt64))) else (if ((fIn xk) = (0 : Int32)) then ((256 : Int64) + ((u5 &&& (255 : Int32)).toInt64)) else (256 : Int64)))), .second] [(.long (if ((fIn xj) = (0 : Int32)) then (if (xj = xk) then (if ((fIn xk) = (0 : Int32)) then ((256 : Int64) + ((u5 &&& (255 : Int32)).toInt64)) else (256 : Int64)) else ((if ((fIn xk) = (0 : Int32)) then ((256 : Int64) + ((u5 &&& (255 : Int32)).toInt64)) else (256 : Int64)) + ((u3 &&& (255 : Int32)).toInt64))) else (if ((fIn xk) = (0 : Int32)) then ((256 : Int64) + ((u5 &&& (255 : Int32)).toInt64)) else (256 : Int64))))])) t
          refine XS.iloadN X22.here hx rfl (hb hby at_135) rfl ?_
          show Steps p.tables e below (T22.setTop (mkF m 136 #[.val (.int u0), .val (.int u1), .val (.int u2), .val (.int u3), .val (.int u4), .val (.int u5), .val (.int xi), .val (.int xj), .val (.int xk), .val (.ref b5), .val (.long (if ((fIn xj) = (0 : Int32)) then (if (xj = xk) then (if ((fIn xk) = (0 : Int32)) then ((256 : Int64) + ((u5 &&& (255 : Int32)).toInt64)) else (256 : Int64)) else ((if ((fIn xk) = (0 : Int32)) then ((256 : Int64) + ((u5 &&& (255 : Int32)).toInt64)) else (256 : Int64)) + ((u3 &&& (255 : Int32)).toInt64))) else (if ((fIn xk) = (0 : Int32)) then ((256 : Int64) + ((u5 &&& (255 : Int32)).toInt64)) else (256 : Int64)))), .second] [(.int u1), (.long (if ((fIn xj) = (0 : Int32)) then (if (xj = xk) then (if ((fIn xk) = (0 : Int32)) then ((256 : Int64) + ((u5 &&& (255 : Int32)).toInt64)) else (256 : Int64)) else ((if ((fIn xk) = (0 : Int32)) then ((256 : Int64) + ((u5 &&& (255 : Int32)).toInt64)) else (256 : Int64)) + ((u3 &&& (255 : Int32)).toInt64))) else (if ((fIn xk) = (0 : Int32)) then ((256 : Int64) + ((u5 &&& (255 : Int32)).toInt64)) else (256 : Int64))))])) t
          refine XS.sipush X22.here hx rfl (hb hby at_136) ?_
          show Steps p.tables e below (T22.setTop (mkF m 139 #[.val (.int u0), .val (.int u1), .val (.int u2), .val (.int u3), .val (.int u4), .val (.int u5), .val (.int xi), .val (.int xj), .val (.int xk), .val (.ref b5), .val (.long (if ((fIn xj) = (0 : Int32)) then (if (xj = xk) then (if ((fIn xk) = (0 : Int32)) then ((256 : Int64) + ((u5 &&& (255 : Int32)).toInt64)) else (256 : Int64)) else ((if ((fIn xk) = (0 : Int32)) then ((256 : Int64) + ((u5 &&& (255 : Int32)).toInt64)) else (256 : Int64)) + ((u3 &&& (255 : Int32)).toInt64))) else (if ((fIn xk) = (0 : Int32)) then ((256 : Int64) + ((u5 &&& (255 : Int32)).toInt64)) else (256 : Int64)))), .second] [(.int (255 : Int32)), (.int u1), (.long (if ((fIn xj) = (0 : Int32)) then (if (xj = xk) then (if ((fIn xk) = (0 : Int32)) then ((256 : Int64) + ((u5 &&& (255 : Int32)).toInt64)) else (256 : Int64)) else ((if ((fIn xk) = (0 : Int32)) then ((256 : Int64) + ((u5 &&& (255 : Int32)).toInt64)) else (256 : Int64)) + ((u3 &&& (255 : Int32)).toInt64))) else (if ((fIn xk) = (0 : Int32)) then ((256 : Int64) + ((u5 &&& (255 : Int32)).toInt64)) else (256 : Int64))))])) t
          refine XS.iand X22.here hx rfl (hb hby at_139) rfl ?_
          show Steps p.tables e below (T22.setTop (mkF m 140 #[.val (.int u0), .val (.int u1), .val (.int u2), .val (.int u3), .val (.int u4), .val (.int u5), .val (.int xi), .val (.int xj), .val (.int xk), .val (.ref b5), .val (.long (if ((fIn xj) = (0 : Int32)) then (if (xj = xk) then (if ((fIn xk) = (0 : Int32)) then ((256 : Int64) + ((u5 &&& (255 : Int32)).toInt64)) else (256 : Int64)) else ((if ((fIn xk) = (0 : Int32)) then ((256 : Int64) + ((u5 &&& (255 : Int32)).toInt64)) else (256 : Int64)) + ((u3 &&& (255 : Int32)).toInt64))) else (if ((fIn xk) = (0 : Int32)) then ((256 : Int64) + ((u5 &&& (255 : Int32)).toInt64)) else (256 : Int64)))), .second] [(.int (u1 &&& (255 : Int32))), (.long (if ((fIn xj) = (0 : Int32)) then (if (xj = xk) then (if ((fIn xk) = (0 : Int32)) then ((256 : Int64) + ((u5 &&& (255 : Int32)).toInt64)) else (256 : Int64)) else ((if ((fIn xk) = (0 : Int32)) then ((256 : Int64) + ((u5 &&& (255 : Int32)).toInt64)) else (256 : Int64)) + ((u3 &&& (255 : Int32)).toInt64))) else (if ((fIn xk) = (0 : Int32)) then ((256 : Int64) + ((u5 &&& (255 : Int32)).toInt64)) else (256 : Int64))))])) t
          refine XS.i2l X22.here hx rfl (hb hby at_140) rfl ?_
          show Steps p.tables e below (T22.setTop (mkF m 141 #[.val (.int u0), .val (.int u1), .val (.int u2), .val (.int u3), .val (.int u4), .val (.int u5), .val (.int xi), .val (.int xj), .val (.int xk), .val (.ref b5), .val (.long (if ((fIn xj) = (0 : Int32)) then (if (xj = xk) then (if ((fIn xk) = (0 : Int32)) then ((256 : Int64) + ((u5 &&& (255 : Int32)).toInt64)) else (256 : Int64)) else ((if ((fIn xk) = (0 : Int32)) then ((256 : Int64) + ((u5 &&& (255 : Int32)).toInt64)) else (256 : Int64)) + ((u3 &&& (255 : Int32)).toInt64))) else (if ((fIn xk) = (0 : Int32)) then ((256 : Int64) + ((u5 &&& (255 : Int32)).toInt64)) else (256 : Int64)))), .second] [(.long ((u1 &&& (255 : Int32)).toInt64)), (.long (if ((fIn xj) = (0 : Int32)) then (if (xj = xk) then (if ((fIn xk) = (0 : Int32)) then ((256 : Int64) + ((u5 &&& (255 : Int32)).toInt64)) else (256 : Int64)) else ((if ((fIn xk) = (0 : Int32)) then ((256 : Int64) + ((u5 &&& (255 : Int32)).toInt64)) else (256 : Int64)) + ((u3 &&& (255 : Int32)).toInt64))) else (if ((fIn xk) = (0 : Int32)) then ((256 : Int64) + ((u5 &&& (255 : Int32)).toInt64)) else (256 : Int64))))])) t
          refine XS.ladd X22.here hx rfl (hb hby at_141) rfl ?_
          show Steps p.tables e below (T22.setTop (mkF m 142 #[.val (.int u0), .val (.int u1), .val (.int u2), .val (.int u3), .val (.int u4), .val (.int u5), .val (.int xi), .val (.int xj), .val (.int xk), .val (.ref b5), .val (.long (if ((fIn xj) = (0 : Int32)) then (if (xj = xk) then (if ((fIn xk) = (0 : Int32)) then ((256 : Int64) + ((u5 &&& (255 : Int32)).toInt64)) else (256 : Int64)) else ((if ((fIn xk) = (0 : Int32)) then ((256 : Int64) + ((u5 &&& (255 : Int32)).toInt64)) else (256 : Int64)) + ((u3 &&& (255 : Int32)).toInt64))) else (if ((fIn xk) = (0 : Int32)) then ((256 : Int64) + ((u5 &&& (255 : Int32)).toInt64)) else (256 : Int64)))), .second] [(.long ((if ((fIn xj) = (0 : Int32)) then (if (xj = xk) then (if ((fIn xk) = (0 : Int32)) then ((256 : Int64) + ((u5 &&& (255 : Int32)).toInt64)) else (256 : Int64)) else ((if ((fIn xk) = (0 : Int32)) then ((256 : Int64) + ((u5 &&& (255 : Int32)).toInt64)) else (256 : Int64)) + ((u3 &&& (255 : Int32)).toInt64))) else (if ((fIn xk) = (0 : Int32)) then ((256 : Int64) + ((u5 &&& (255 : Int32)).toInt64)) else (256 : Int64))) + ((u1 &&& (255 : Int32)).toInt64)))])) t
          refine XS.lstore X22.here hx rfl (hb hby at_142) rfl (l' := #[.val (.int u0), .val (.int u1), .val (.int u2), .val (.int u3), .val (.int u4), .val (.int u5), .val (.int xi), .val (.int xj), .val (.int xk), .val (.ref b5), .val (.long ((if ((fIn xj) = (0 : Int32)) then (if (xj = xk) then (if ((fIn xk) = (0 : Int32)) then ((256 : Int64) + ((u5 &&& (255 : Int32)).toInt64)) else (256 : Int64)) else ((if ((fIn xk) = (0 : Int32)) then ((256 : Int64) + ((u5 &&& (255 : Int32)).toInt64)) else (256 : Int64)) + ((u3 &&& (255 : Int32)).toInt64))) else (if ((fIn xk) = (0 : Int32)) then ((256 : Int64) + ((u5 &&& (255 : Int32)).toInt64)) else (256 : Int64))) + ((u1 &&& (255 : Int32)).toInt64))), .second]) rfl ?_
          show Steps p.tables e below (T22.setTop (mkF m 144 #[.val (.int u0), .val (.int u1), .val (.int u2), .val (.int u3), .val (.int u4), .val (.int u5), .val (.int xi), .val (.int xj), .val (.int xk), .val (.ref b5), .val (.long ((if ((fIn xj) = (0 : Int32)) then (if (xj = xk) then (if ((fIn xk) = (0 : Int32)) then ((256 : Int64) + ((u5 &&& (255 : Int32)).toInt64)) else (256 : Int64)) else ((if ((fIn xk) = (0 : Int32)) then ((256 : Int64) + ((u5 &&& (255 : Int32)).toInt64)) else (256 : Int64)) + ((u3 &&& (255 : Int32)).toInt64))) else (if ((fIn xk) = (0 : Int32)) then ((256 : Int64) + ((u5 &&& (255 : Int32)).toInt64)) else (256 : Int64))) + ((u1 &&& (255 : Int32)).toInt64))), .second] [])) t
          exact (castTop (congrArg (fun z => (mkF m 144 #[.val (.int u0), .val (.int u1), .val (.int u2), .val (.int u3), .val (.int u4), .val (.int u5), .val (.int xi), .val (.int xj), .val (.int xk), .val (.ref b5), .val (.long z), .second] [])) (show ((if ((fIn xj) = (0 : Int32)) then (if (xj = xk) then (if ((fIn xk) = (0 : Int32)) then ((256 : Int64) + ((u5 &&& (255 : Int32)).toInt64)) else (256 : Int64)) else ((if ((fIn xk) = (0 : Int32)) then ((256 : Int64) + ((u5 &&& (255 : Int32)).toInt64)) else (256 : Int64)) + ((u3 &&& (255 : Int32)).toInt64))) else (if ((fIn xk) = (0 : Int32)) then ((256 : Int64) + ((u5 &&& (255 : Int32)).toInt64)) else (256 : Int64))) + ((u1 &&& (255 : Int32)).toInt64)) = (if ((fIn xi) = (0 : Int32)) then (if (xi = xj) then (if ((fIn xj) = (0 : Int32)) then (if (xj = xk) then (if ((fIn xk) = (0 : Int32)) then ((256 : Int64) + ((u5 &&& (255 : Int32)).toInt64)) else (256 : Int64)) else ((if ((fIn xk) = (0 : Int32)) then ((256 : Int64) + ((u5 &&& (255 : Int32)).toInt64)) else (256 : Int64)) + ((u3 &&& (255 : Int32)).toInt64))) else (if ((fIn xk) = (0 : Int32)) then ((256 : Int64) + ((u5 &&& (255 : Int32)).toInt64)) else (256 : Int64))) else (if (xi = xk) then (if ((fIn xj) = (0 : Int32)) then (if (xj = xk) then (if ((fIn xk) = (0 : Int32)) then ((256 : Int64) + ((u5 &&& (255 : Int32)).toInt64)) else (256 : Int64)) else ((if ((fIn xk) = (0 : Int32)) then ((256 : Int64) + ((u5 &&& (255 : Int32)).toInt64)) else (256 : Int64)) + ((u3 &&& (255 : Int32)).toInt64))) else (if ((fIn xk) = (0 : Int32)) then ((256 : Int64) + ((u5 &&& (255 : Int32)).toInt64)) else (256 : Int64))) else ((if ((fIn xj) = (0 : Int32)) then (if (xj = xk) then (if ((fIn xk) = (0 : Int32)) then ((256 : Int64) + ((u5 &&& (255 : Int32)).toInt64)) else (256 : Int64)) else ((if ((fIn xk) = (0 : Int32)) then ((256 : Int64) + ((u5 &&& (255 : Int32)).toInt64)) else (256 : Int64)) + ((u3 &&& (255 : Int32)).toInt64))) else (if ((fIn xk) = (0 : Int32)) then ((256 : Int64) + ((u5 &&& (255 : Int32)).toInt64)) else (256 : Int64))) + ((u1 &&& (255 : Int32)).toInt64)))) else (if ((fIn xj) = (0 : Int32)) then (if (xj = xk) then (if ((fIn xk) = (0 : Int32)) then ((256 : Int64) + ((u5 &&& (255 : Int32)).toInt64)) else (256 : Int64)) else ((if ((fIn xk) = (0 : Int32)) then ((256 : Int64) + ((u5 &&& (255 : Int32)).toInt64)) else (256 : Int64)) + ((u3 &&& (255 : Int32)).toInt64))) else (if ((fIn xk) = (0 : Int32)) then ((256 : Int64) + ((u5 &&& (255 : Int32)).toInt64)) else (256 : Int64)))) by rw [if_pos h24, if_neg h25, if_neg h26])) k)
    · refine XS.ifYes X22.here hx rfl (pc0 := 116) (pc' := 144) rfl (hb hby at_116) rfl ((if0 _ _).trans (feq h24).2) (by decide) (by decide) ?_
      show Steps p.tables e below (T22.setTop (mkF m 144 #[.val (.int u0), .val (.int u1), .val (.int u2), .val (.int u3), .val (.int u4), .val (.int u5), .val (.int xi), .val (.int xj), .val (.int xk), .val (.ref b5), .val (.long (if ((fIn xj) = (0 : Int32)) then (if (xj = xk) then (if ((fIn xk) = (0 : Int32)) then ((256 : Int64) + ((u5 &&& (255 : Int32)).toInt64)) else (256 : Int64)) else ((if ((fIn xk) = (0 : Int32)) then ((256 : Int64) + ((u5 &&& (255 : Int32)).toInt64)) else (256 : Int64)) + ((u3 &&& (255 : Int32)).toInt64))) else (if ((fIn xk) = (0 : Int32)) then ((256 : Int64) + ((u5 &&& (255 : Int32)).toInt64)) else (256 : Int64)))), .second] [])) t
      exact (castTop (congrArg (fun z => (mkF m 144 #[.val (.int u0), .val (.int u1), .val (.int u2), .val (.int u3), .val (.int u4), .val (.int u5), .val (.int xi), .val (.int xj), .val (.int xk), .val (.ref b5), .val (.long z), .second] [])) (show (if ((fIn xj) = (0 : Int32)) then (if (xj = xk) then (if ((fIn xk) = (0 : Int32)) then ((256 : Int64) + ((u5 &&& (255 : Int32)).toInt64)) else (256 : Int64)) else ((if ((fIn xk) = (0 : Int32)) then ((256 : Int64) + ((u5 &&& (255 : Int32)).toInt64)) else (256 : Int64)) + ((u3 &&& (255 : Int32)).toInt64))) else (if ((fIn xk) = (0 : Int32)) then ((256 : Int64) + ((u5 &&& (255 : Int32)).toInt64)) else (256 : Int64))) = (if ((fIn xi) = (0 : Int32)) then (if (xi = xj) then (if ((fIn xj) = (0 : Int32)) then (if (xj = xk) then (if ((fIn xk) = (0 : Int32)) then ((256 : Int64) + ((u5 &&& (255 : Int32)).toInt64)) else (256 : Int64)) else ((if ((fIn xk) = (0 : Int32)) then ((256 : Int64) + ((u5 &&& (255 : Int32)).toInt64)) else (256 : Int64)) + ((u3 &&& (255 : Int32)).toInt64))) else (if ((fIn xk) = (0 : Int32)) then ((256 : Int64) + ((u5 &&& (255 : Int32)).toInt64)) else (256 : Int64))) else (if (xi = xk) then (if ((fIn xj) = (0 : Int32)) then (if (xj = xk) then (if ((fIn xk) = (0 : Int32)) then ((256 : Int64) + ((u5 &&& (255 : Int32)).toInt64)) else (256 : Int64)) else ((if ((fIn xk) = (0 : Int32)) then ((256 : Int64) + ((u5 &&& (255 : Int32)).toInt64)) else (256 : Int64)) + ((u3 &&& (255 : Int32)).toInt64))) else (if ((fIn xk) = (0 : Int32)) then ((256 : Int64) + ((u5 &&& (255 : Int32)).toInt64)) else (256 : Int64))) else ((if ((fIn xj) = (0 : Int32)) then (if (xj = xk) then (if ((fIn xk) = (0 : Int32)) then ((256 : Int64) + ((u5 &&& (255 : Int32)).toInt64)) else (256 : Int64)) else ((if ((fIn xk) = (0 : Int32)) then ((256 : Int64) + ((u5 &&& (255 : Int32)).toInt64)) else (256 : Int64)) + ((u3 &&& (255 : Int32)).toInt64))) else (if ((fIn xk) = (0 : Int32)) then ((256 : Int64) + ((u5 &&& (255 : Int32)).toInt64)) else (256 : Int64))) + ((u1 &&& (255 : Int32)).toInt64)))) else (if ((fIn xj) = (0 : Int32)) then (if (xj = xk) then (if ((fIn xk) = (0 : Int32)) then ((256 : Int64) + ((u5 &&& (255 : Int32)).toInt64)) else (256 : Int64)) else ((if ((fIn xk) = (0 : Int32)) then ((256 : Int64) + ((u5 &&& (255 : Int32)).toInt64)) else (256 : Int64)) + ((u3 &&& (255 : Int32)).toInt64))) else (if ((fIn xk) = (0 : Int32)) then ((256 : Int64) + ((u5 &&& (255 : Int32)).toInt64)) else (256 : Int64)))) by rw [if_neg h24])) k)
  refine OFin.go J23 ?_
  have S27 : ∀ t, Steps p.tables e below (T22.setTop (mkF m 146 #[.val (.int u0), .val (.int u1), .val (.int u2), .val (.int u3), .val (.int u4), .val (.int u5), .val (.int xi), .val (.int xj), .val (.int xk), .val (.ref b5), .val (.long (if ((fIn xi) = (0 : Int32)) then (if (xi = xj) then (if ((fIn xj) = (0 : Int32)) then (if (xj = xk) then (if ((fIn xk) = (0 : Int32)) then ((256 : Int64) + ((u5 &&& (255 : Int32)).toInt64)) else (256 : Int64)) else ((if ((fIn xk) = (0 : Int32)) then ((256 : Int64) + ((u5 &&& (255 : Int32)).toInt64)) else (256 : Int64)) + ((u3 &&& (255 : Int32)).toInt64))) else (if ((fIn xk) = (0 : Int32)) then ((256 : Int64) + ((u5 &&& (255 : Int32)).toInt64)) else (256 : Int64))) else (if (xi = xk) then (if ((fIn xj) = (0 : Int32)) then (if (xj = xk) then (if ((fIn xk) = (0 : Int32)) then ((256 : Int64) + ((u5 &&& (255 : Int32)).toInt64)) else (256 : Int64)) else ((if ((fIn xk) = (0 : Int32)) then ((256 : Int64) + ((u5 &&& (255 : Int32)).toInt64)) else (256 : Int64)) + ((u3 &&& (255 : Int32)).toInt64))) else (if ((fIn xk) = (0 : Int32)) then ((256 : Int64) + ((u5 &&& (255 : Int32)).toInt64)) else (256 : Int64))) else ((if ((fIn xj) = (0 : Int32)) then (if (xj = xk) then (if ((fIn xk) = (0 : Int32)) then ((256 : Int64) + ((u5 &&& (255 : Int32)).toInt64)) else (256 : Int64)) else ((if ((fIn xk) = (0 : Int32)) then ((256 : Int64) + ((u5 &&& (255 : Int32)).toInt64)) else (256 : Int64)) + ((u3 &&& (255 : Int32)).toInt64))) else (if ((fIn xk) = (0 : Int32)) then ((256 : Int64) + ((u5 &&& (255 : Int32)).toInt64)) else (256 : Int64))) + ((u1 &&& (255 : Int32)).toInt64)))) else (if ((fIn xj) = (0 : Int32)) then (if (xj = xk) then (if ((fIn xk) = (0 : Int32)) then ((256 : Int64) + ((u5 &&& (255 : Int32)).toInt64)) else (256 : Int64)) else ((if ((fIn xk) = (0 : Int32)) then ((256 : Int64) + ((u5 &&& (255 : Int32)).toInt64)) else (256 : Int64)) + ((u3 &&& (255 : Int32)).toInt64))) else (if ((fIn xk) = (0 : Int32)) then ((256 : Int64) + ((u5 &&& (255 : Int32)).toInt64)) else (256 : Int64))))), .second] [(.ref b5)])) t → Steps p.tables e below (T22.setTop (mkF m 144 #[.val (.int u0), .val (.int u1), .val (.int u2), .val (.int u3), .val (.int u4), .val (.int u5), .val (.int xi), .val (.int xj), .val (.int xk), .val (.ref b5), .val (.long (if ((fIn xi) = (0 : Int32)) then (if (xi = xj) then (if ((fIn xj) = (0 : Int32)) then (if (xj = xk) then (if ((fIn xk) = (0 : Int32)) then ((256 : Int64) + ((u5 &&& (255 : Int32)).toInt64)) else (256 : Int64)) else ((if ((fIn xk) = (0 : Int32)) then ((256 : Int64) + ((u5 &&& (255 : Int32)).toInt64)) else (256 : Int64)) + ((u3 &&& (255 : Int32)).toInt64))) else (if ((fIn xk) = (0 : Int32)) then ((256 : Int64) + ((u5 &&& (255 : Int32)).toInt64)) else (256 : Int64))) else (if (xi = xk) then (if ((fIn xj) = (0 : Int32)) then (if (xj = xk) then (if ((fIn xk) = (0 : Int32)) then ((256 : Int64) + ((u5 &&& (255 : Int32)).toInt64)) else (256 : Int64)) else ((if ((fIn xk) = (0 : Int32)) then ((256 : Int64) + ((u5 &&& (255 : Int32)).toInt64)) else (256 : Int64)) + ((u3 &&& (255 : Int32)).toInt64))) else (if ((fIn xk) = (0 : Int32)) then ((256 : Int64) + ((u5 &&& (255 : Int32)).toInt64)) else (256 : Int64))) else ((if ((fIn xj) = (0 : Int32)) then (if (xj = xk) then (if ((fIn xk) = (0 : Int32)) then ((256 : Int64) + ((u5 &&& (255 : Int32)).toInt64)) else (256 : Int64)) else ((if ((fIn xk) = (0 : Int32)) then ((256 : Int64) + ((u5 &&& (255 : Int32)).toInt64)) else (256 : Int64)) + ((u3 &&& (255 : Int32)).toInt64))) else (if ((fIn xk) = (0 : Int32)) then ((256 : Int64) + ((u5 &&& (255 : Int32)).toInt64)) else (256 : Int64))) + ((u1 &&& (255 : Int32)).toInt64)))) else (if ((fIn xj) = (0 : Int32)) then (if (xj = xk) then (if ((fIn xk) = (0 : Int32)) then ((256 : Int64) + ((u5 &&& (255 : Int32)).toInt64)) else (256 : Int64)) else ((if ((fIn xk) = (0 : Int32)) then ((256 : Int64) + ((u5 &&& (255 : Int32)).toInt64)) else (256 : Int64)) + ((u3 &&& (255 : Int32)).toInt64))) else (if ((fIn xk) = (0 : Int32)) then ((256 : Int64) + ((u5 &&& (255 : Int32)).toInt64)) else (256 : Int64))))), .second] [])) t := by
    intro t k
    show Steps p.tables e below (T22.setTop (mkF m 144 #[.val (.int u0), .val (.int u1), .val (.int u2), .val (.int u3), .val (.int u4), .val (.int u5), .val (.int xi), .val (.int xj), .val (.int xk), .val (.ref b5), .val (.long (if ((fIn xi) = (0 : Int32)) then (if (xi = xj) then (if ((fIn xj) = (0 : Int32)) then (if (xj = xk) then (if ((fIn xk) = (0 : Int32)) then ((256 : Int64) + ((u5 &&& (255 : Int32)).toInt64)) else (256 : Int64)) else ((if ((fIn xk) = (0 : Int32)) then ((256 : Int64) + ((u5 &&& (255 : Int32)).toInt64)) else (256 : Int64)) + ((u3 &&& (255 : Int32)).toInt64))) else (if ((fIn xk) = (0 : Int32)) then ((256 : Int64) + ((u5 &&& (255 : Int32)).toInt64)) else (256 : Int64))) else (if (xi = xk) then (if ((fIn xj) = (0 : Int32)) then (if (xj = xk) then (if ((fIn xk) = (0 : Int32)) then ((256 : Int64) + ((u5 &&& (255 : Int32)).toInt64)) else (256 : Int64)) else ((if ((fIn xk) = (0 : Int32)) then ((256 : Int64) + ((u5 &&& (255 : Int32)).toInt64)) else (256 : Int64)) + ((u3 &&& (255 : Int32)).toInt64))) else (if ((fIn xk) = (0 : Int32)) then ((256 : Int64) + ((u5 &&& (255 : Int32)).toInt64)) else (256 : Int64))) else ((if ((fIn xj) = (0 : Int32)) then (if (xj = xk) then (if ((fIn xk) = (0 : Int32)) then ((256 : Int64) + ((u5 &&& (255 : Int32)).toInt64)) else (256 : Int64)) else ((if ((fIn xk) = (0 : Int32)) then ((256 : Int64) + ((u5 &&& (255 : Int32)).toInt64)) else (256 : Int64)) + ((u3 &&& (255 : Int32)).toInt64))) else (if ((fIn xk) = (0 : Int32)) then ((256 : Int64) + ((u5 &&& (255 : Int32)).toInt64)) else (256 : Int64))) + ((u1 &&& (255 : Int32)).toInt64)))) else (if ((fIn xj) = (0 : Int32)) then (if (xj = xk) then (if ((fIn xk) = (0 : Int32)) then ((256 : Int64) + ((u5 &&& (255 : Int32)).toInt64)) else (256 : Int64)) else ((if ((fIn xk) = (0 : Int32)) then ((256 : Int64) + ((u5 &&& (255 : Int32)).toInt64)) else (256 : Int64)) + ((u3 &&& (255 : Int32)).toInt64))) else (if ((fIn xk) = (0 : Int32)) then ((256 : Int64) + ((u5 &&& (255 : Int32)).toInt64)) else (256 : Int64))))), .second] [])) t
    refine XS.aload X22.here hx rfl (hb hby at_144) rfl rfl ?_
    exact k
  refine OFin.go S27 ?_
  have VV : Ara Z h11 b5 .byte 512 (fun i => .int ((own_f xi.toNatClampNeg xj.toNatClampNeg xk.toNatClampNeg (u1.toInt8.toInt32) (u3.toInt8.toInt32) (u5.toInt8.toInt32)) i)) := V11.congr (fun i hi => own_fv _ _ _ _ _ _ i)
  obtain ⟨_, T28, Lc28, X28, hQ28, st28⟩ := callQ X22 hx hZ (y := (⟨"com/example/stowage/stowage/core/Tar", "checksum", "([B)J"⟩ : MethodName)) hown (hw _ (List.mem_of_getElem? (i := 7) rfl)) (hw _ (List.mem_of_getElem? (i := 8) rfl)) (hw _ (List.mem_of_getElem? (i := 9) rfl)) (hw _ (List.mem_of_getElem? (i := 10) rfl)) (by decide) (argsL := [(.ref b5)]) (rest := []) (rm2 l Z a0 hw [] b5 (own_f xi.toNatClampNeg xj.toNatClampNeg xk.toNatClampNeg (u1.toInt8.toInt32) (u3.toInt8.toInt32) (u5.toInt8.toInt32)) h11 n0 Z11 VV) (W := 0) (by decide) (by decide) e22 (g := (mkF m 146 #[.val (.int u0), .val (.int u1), .val (.int u2), .val (.int u3), .val (.int u4), .val (.int u5), .val (.int xi), .val (.int xj), .val (.int xk), .val (.ref b5), .val (.long (if ((fIn xi) = (0 : Int32)) then (if (xi = xj) then (if ((fIn xj) = (0 : Int32)) then (if (xj = xk) then (if ((fIn xk) = (0 : Int32)) then ((256 : Int64) + ((u5 &&& (255 : Int32)).toInt64)) else (256 : Int64)) else ((if ((fIn xk) = (0 : Int32)) then ((256 : Int64) + ((u5 &&& (255 : Int32)).toInt64)) else (256 : Int64)) + ((u3 &&& (255 : Int32)).toInt64))) else (if ((fIn xk) = (0 : Int32)) then ((256 : Int64) + ((u5 &&& (255 : Int32)).toInt64)) else (256 : Int64))) else (if (xi = xk) then (if ((fIn xj) = (0 : Int32)) then (if (xj = xk) then (if ((fIn xk) = (0 : Int32)) then ((256 : Int64) + ((u5 &&& (255 : Int32)).toInt64)) else (256 : Int64)) else ((if ((fIn xk) = (0 : Int32)) then ((256 : Int64) + ((u5 &&& (255 : Int32)).toInt64)) else (256 : Int64)) + ((u3 &&& (255 : Int32)).toInt64))) else (if ((fIn xk) = (0 : Int32)) then ((256 : Int64) + ((u5 &&& (255 : Int32)).toInt64)) else (256 : Int64))) else ((if ((fIn xj) = (0 : Int32)) then (if (xj = xk) then (if ((fIn xk) = (0 : Int32)) then ((256 : Int64) + ((u5 &&& (255 : Int32)).toInt64)) else (256 : Int64)) else ((if ((fIn xk) = (0 : Int32)) then ((256 : Int64) + ((u5 &&& (255 : Int32)).toInt64)) else (256 : Int64)) + ((u3 &&& (255 : Int32)).toInt64))) else (if ((fIn xk) = (0 : Int32)) then ((256 : Int64) + ((u5 &&& (255 : Int32)).toInt64)) else (256 : Int64))) + ((u1 &&& (255 : Int32)).toInt64)))) else (if ((fIn xj) = (0 : Int32)) then (if (xj = xk) then (if ((fIn xk) = (0 : Int32)) then ((256 : Int64) + ((u5 &&& (255 : Int32)).toInt64)) else (256 : Int64)) else ((if ((fIn xk) = (0 : Int32)) then ((256 : Int64) + ((u5 &&& (255 : Int32)).toInt64)) else (256 : Int64)) + ((u3 &&& (255 : Int32)).toInt64))) else (if ((fIn xk) = (0 : Int32)) then ((256 : Int64) + ((u5 &&& (255 : Int32)).toInt64)) else (256 : Int64))))), .second] [(.ref b5)])) rfl (by rw [hml]; rfl) (lenOf pd_1 rfl) rfl (by show 2 * 0 + _ ≤ _; exact Nat.le_of_eq rfl) (hb hby at_146) (Nat.le_of_ble_eq_true rfl) (Nat.le_of_ble_eq_true rfl)
  obtain ⟨rfl, N28q, e28⟩ := hQ28
  have N28 := Fr.app N22 N28q
  refine OFin.go st28 ?_
  show OFin p e below _ (T28.setTop (mkF m 149 #[.val (.int u0), .val (.int u1), .val (.int u2), .val (.int u3), .val (.int u4), .val (.int u5), .val (.int xi), .val (.int xj), .val (.int xk), .val (.ref b5), .val (.long (if ((fIn xi) = (0 : Int32)) then (if (xi = xj) then (if ((fIn xj) = (0 : Int32)) then (if (xj = xk) then (if ((fIn xk) = (0 : Int32)) then ((256 : Int64) + ((u5 &&& (255 : Int32)).toInt64)) else (256 : Int64)) else ((if ((fIn xk) = (0 : Int32)) then ((256 : Int64) + ((u5 &&& (255 : Int32)).toInt64)) else (256 : Int64)) + ((u3 &&& (255 : Int32)).toInt64))) else (if ((fIn xk) = (0 : Int32)) then ((256 : Int64) + ((u5 &&& (255 : Int32)).toInt64)) else (256 : Int64))) else (if (xi = xk) then (if ((fIn xj) = (0 : Int32)) then (if (xj = xk) then (if ((fIn xk) = (0 : Int32)) then ((256 : Int64) + ((u5 &&& (255 : Int32)).toInt64)) else (256 : Int64)) else ((if ((fIn xk) = (0 : Int32)) then ((256 : Int64) + ((u5 &&& (255 : Int32)).toInt64)) else (256 : Int64)) + ((u3 &&& (255 : Int32)).toInt64))) else (if ((fIn xk) = (0 : Int32)) then ((256 : Int64) + ((u5 &&& (255 : Int32)).toInt64)) else (256 : Int64))) else ((if ((fIn xj) = (0 : Int32)) then (if (xj = xk) then (if ((fIn xk) = (0 : Int32)) then ((256 : Int64) + ((u5 &&& (255 : Int32)).toInt64)) else (256 : Int64)) else ((if ((fIn xk) = (0 : Int32)) then ((256 : Int64) + ((u5 &&& (255 : Int32)).toInt64)) else (256 : Int64)) + ((u3 &&& (255 : Int32)).toInt64))) else (if ((fIn xk) = (0 : Int32)) then ((256 : Int64) + ((u5 &&& (255 : Int32)).toInt64)) else (256 : Int64))) + ((u1 &&& (255 : Int32)).toInt64)))) else (if ((fIn xj) = (0 : Int32)) then (if (xj = xk) then (if ((fIn xk) = (0 : Int32)) then ((256 : Int64) + ((u5 &&& (255 : Int32)).toInt64)) else (256 : Int64)) else ((if ((fIn xk) = (0 : Int32)) then ((256 : Int64) + ((u5 &&& (255 : Int32)).toInt64)) else (256 : Int64)) + ((u3 &&& (255 : Int32)).toInt64))) else (if ((fIn xk) = (0 : Int32)) then ((256 : Int64) + ((u5 &&& (255 : Int32)).toInt64)) else (256 : Int64))))), .second] [(.long (cs (own_f xi.toNatClampNeg xj.toNatClampNeg xk.toNatClampNeg (u1.toInt8.toInt32) (u3.toInt8.toInt32) (u5.toInt8.toInt32)) 512 0 0))]))
  have S29 : ∀ t, Steps p.tables e below (T28.setTop (mkF m 152 #[.val (.int u0), .val (.int u1), .val (.int u2), .val (.int u3), .val (.int u4), .val (.int u5), .val (.int xi), .val (.int xj), .val (.int xk), .val (.ref b5), .val (.long (if ((fIn xi) = (0 : Int32)) then (if (xi = xj) then (if ((fIn xj) = (0 : Int32)) then (if (xj = xk) then (if ((fIn xk) = (0 : Int32)) then ((256 : Int64) + ((u5 &&& (255 : Int32)).toInt64)) else (256 : Int64)) else ((if ((fIn xk) = (0 : Int32)) then ((256 : Int64) + ((u5 &&& (255 : Int32)).toInt64)) else (256 : Int64)) + ((u3 &&& (255 : Int32)).toInt64))) else (if ((fIn xk) = (0 : Int32)) then ((256 : Int64) + ((u5 &&& (255 : Int32)).toInt64)) else (256 : Int64))) else (if (xi = xk) then (if ((fIn xj) = (0 : Int32)) then (if (xj = xk) then (if ((fIn xk) = (0 : Int32)) then ((256 : Int64) + ((u5 &&& (255 : Int32)).toInt64)) else (256 : Int64)) else ((if ((fIn xk) = (0 : Int32)) then ((256 : Int64) + ((u5 &&& (255 : Int32)).toInt64)) else (256 : Int64)) + ((u3 &&& (255 : Int32)).toInt64))) else (if ((fIn xk) = (0 : Int32)) then ((256 : Int64) + ((u5 &&& (255 : Int32)).toInt64)) else (256 : Int64))) else ((if ((fIn xj) = (0 : Int32)) then (if (xj = xk) then (if ((fIn xk) = (0 : Int32)) then ((256 : Int64) + ((u5 &&& (255 : Int32)).toInt64)) else (256 : Int64)) else ((if ((fIn xk) = (0 : Int32)) then ((256 : Int64) + ((u5 &&& (255 : Int32)).toInt64)) else (256 : Int64)) + ((u3 &&& (255 : Int32)).toInt64))) else (if ((fIn xk) = (0 : Int32)) then ((256 : Int64) + ((u5 &&& (255 : Int32)).toInt64)) else (256 : Int64))) + ((u1 &&& (255 : Int32)).toInt64)))) else (if ((fIn xj) = (0 : Int32)) then (if (xj = xk) then (if ((fIn xk) = (0 : Int32)) then ((256 : Int64) + ((u5 &&& (255 : Int32)).toInt64)) else (256 : Int64)) else ((if ((fIn xk) = (0 : Int32)) then ((256 : Int64) + ((u5 &&& (255 : Int32)).toInt64)) else (256 : Int64)) + ((u3 &&& (255 : Int32)).toInt64))) else (if ((fIn xk) = (0 : Int32)) then ((256 : Int64) + ((u5 &&& (255 : Int32)).toInt64)) else (256 : Int64))))), .second] [(.int (lcmpW (cs (own_f xi.toNatClampNeg xj.toNatClampNeg xk.toNatClampNeg (u1.toInt8.toInt32) (u3.toInt8.toInt32) (u5.toInt8.toInt32)) 512 0 0) (if ((fIn xi) = (0 : Int32)) then (if (xi = xj) then (if ((fIn xj) = (0 : Int32)) then (if (xj = xk) then (if ((fIn xk) = (0 : Int32)) then ((256 : Int64) + ((u5 &&& (255 : Int32)).toInt64)) else (256 : Int64)) else ((if ((fIn xk) = (0 : Int32)) then ((256 : Int64) + ((u5 &&& (255 : Int32)).toInt64)) else (256 : Int64)) + ((u3 &&& (255 : Int32)).toInt64))) else (if ((fIn xk) = (0 : Int32)) then ((256 : Int64) + ((u5 &&& (255 : Int32)).toInt64)) else (256 : Int64))) else (if (xi = xk) then (if ((fIn xj) = (0 : Int32)) then (if (xj = xk) then (if ((fIn xk) = (0 : Int32)) then ((256 : Int64) + ((u5 &&& (255 : Int32)).toInt64)) else (256 : Int64)) else ((if ((fIn xk) = (0 : Int32)) then ((256 : Int64) + ((u5 &&& (255 : Int32)).toInt64)) else (256 : Int64)) + ((u3 &&& (255 : Int32)).toInt64))) else (if ((fIn xk) = (0 : Int32)) then ((256 : Int64) + ((u5 &&& (255 : Int32)).toInt64)) else (256 : Int64))) else ((if ((fIn xj) = (0 : Int32)) then (if (xj = xk) then (if ((fIn xk) = (0 : Int32)) then ((256 : Int64) + ((u5 &&& (255 : Int32)).toInt64)) else (256 : Int64)) else ((if ((fIn xk) = (0 : Int32)) then ((256 : Int64) + ((u5 &&& (255 : Int32)).toInt64)) else (256 : Int64)) + ((u3 &&& (255 : Int32)).toInt64))) else (if ((fIn xk) = (0 : Int32)) then ((256 : Int64) + ((u5 &&& (255 : Int32)).toInt64)) else (256 : Int64))) + ((u1 &&& (255 : Int32)).toInt64)))) else (if ((fIn xj) = (0 : Int32)) then (if (xj = xk) then (if ((fIn xk) = (0 : Int32)) then ((256 : Int64) + ((u5 &&& (255 : Int32)).toInt64)) else (256 : Int64)) else ((if ((fIn xk) = (0 : Int32)) then ((256 : Int64) + ((u5 &&& (255 : Int32)).toInt64)) else (256 : Int64)) + ((u3 &&& (255 : Int32)).toInt64))) else (if ((fIn xk) = (0 : Int32)) then ((256 : Int64) + ((u5 &&& (255 : Int32)).toInt64)) else (256 : Int64))))))])) t → Steps p.tables e below (T28.setTop (mkF m 149 #[.val (.int u0), .val (.int u1), .val (.int u2), .val (.int u3), .val (.int u4), .val (.int u5), .val (.int xi), .val (.int xj), .val (.int xk), .val (.ref b5), .val (.long (if ((fIn xi) = (0 : Int32)) then (if (xi = xj) then (if ((fIn xj) = (0 : Int32)) then (if (xj = xk) then (if ((fIn xk) = (0 : Int32)) then ((256 : Int64) + ((u5 &&& (255 : Int32)).toInt64)) else (256 : Int64)) else ((if ((fIn xk) = (0 : Int32)) then ((256 : Int64) + ((u5 &&& (255 : Int32)).toInt64)) else (256 : Int64)) + ((u3 &&& (255 : Int32)).toInt64))) else (if ((fIn xk) = (0 : Int32)) then ((256 : Int64) + ((u5 &&& (255 : Int32)).toInt64)) else (256 : Int64))) else (if (xi = xk) then (if ((fIn xj) = (0 : Int32)) then (if (xj = xk) then (if ((fIn xk) = (0 : Int32)) then ((256 : Int64) + ((u5 &&& (255 : Int32)).toInt64)) else (256 : Int64)) else ((if ((fIn xk) = (0 : Int32)) then ((256 : Int64) + ((u5 &&& (255 : Int32)).toInt64)) else (256 : Int64)) + ((u3 &&& (255 : Int32)).toInt64))) else (if ((fIn xk) = (0 : Int32)) then ((256 : Int64) + ((u5 &&& (255 : Int32)).toInt64)) else (256 : Int64))) else ((if ((fIn xj) = (0 : Int32)) then (if (xj = xk) then (if ((fIn xk) = (0 : Int32)) then ((256 : Int64) + ((u5 &&& (255 : Int32)).toInt64)) else (256 : Int64)) else ((if ((fIn xk) = (0 : Int32)) then ((256 : Int64) + ((u5 &&& (255 : Int32)).toInt64)) else (256 : Int64)) + ((u3 &&& (255 : Int32)).toInt64))) else (if ((fIn xk) = (0 : Int32)) then ((256 : Int64) + ((u5 &&& (255 : Int32)).toInt64)) else (256 : Int64))) + ((u1 &&& (255 : Int32)).toInt64)))) else (if ((fIn xj) = (0 : Int32)) then (if (xj = xk) then (if ((fIn xk) = (0 : Int32)) then ((256 : Int64) + ((u5 &&& (255 : Int32)).toInt64)) else (256 : Int64)) else ((if ((fIn xk) = (0 : Int32)) then ((256 : Int64) + ((u5 &&& (255 : Int32)).toInt64)) else (256 : Int64)) + ((u3 &&& (255 : Int32)).toInt64))) else (if ((fIn xk) = (0 : Int32)) then ((256 : Int64) + ((u5 &&& (255 : Int32)).toInt64)) else (256 : Int64))))), .second] [(.long (cs (own_f xi.toNatClampNeg xj.toNatClampNeg xk.toNatClampNeg (u1.toInt8.toInt32) (u3.toInt8.toInt32) (u5.toInt8.toInt32)) 512 0 0))])) t := by
    intro t k
    show Steps p.tables e below (T28.setTop (mkF m 149 #[.val (.int u0), .val (.int u1), .val (.int u2), .val (.int u3), .val (.int u4), .val (.int u5), .val (.int xi), .val (.int xj), .val (.int xk), .val (.ref b5), .val (.long (if ((fIn xi) = (0 : Int32)) then (if (xi = xj) then (if ((fIn xj) = (0 : Int32)) then (if (xj = xk) then (if ((fIn xk) = (0 : Int32)) then ((256 : Int64) + ((u5 &&& (255 : Int32)).toInt64)) else (256 : Int64)) else ((if ((fIn xk) = (0 : Int32)) then ((256 : Int64) + ((u5 &&& (255 : Int32)).toInt64)) else (256 : Int64)) + ((u3 &&& (255 : Int32)).toInt64))) else (if ((fIn xk) = (0 : Int32)) then ((256 : Int64) + ((u5 &&& (255 : Int32)).toInt64)) else (256 : Int64))) else (if (xi = xk) then (if ((fIn xj) = (0 : Int32)) then (if (xj = xk) then (if ((fIn xk) = (0 : Int32)) then ((256 : Int64) + ((u5 &&& (255 : Int32)).toInt64)) else (256 : Int64)) else ((if ((fIn xk) = (0 : Int32)) then ((256 : Int64) + ((u5 &&& (255 : Int32)).toInt64)) else (256 : Int64)) + ((u3 &&& (255 : Int32)).toInt64))) else (if ((fIn xk) = (0 : Int32)) then ((256 : Int64) + ((u5 &&& (255 : Int32)).toInt64)) else (256 : Int64))) else ((if ((fIn xj) = (0 : Int32)) then (if (xj = xk) then (if ((fIn xk) = (0 : Int32)) then ((256 : Int64) + ((u5 &&& (255 : Int32)).toInt64)) else (256 : Int64)) else ((if ((fIn xk) = (0 : Int32)) then ((256 : Int64) + ((u5 &&& (255 : Int32)).toInt64)) else (256 : Int64)) + ((u3 &&& (255 : Int32)).toInt64))) else (if ((fIn xk) = (0 : Int32)) then ((256 : Int64) + ((u5 &&& (255 : Int32)).toInt64)) else (256 : Int64))) + ((u1 &&& (255 : Int32)).toInt64)))) else (if ((fIn xj) = (0 : Int32)) then (if (xj = xk) then (if ((fIn xk) = (0 : Int32)) then ((256 : Int64) + ((u5 &&& (255 : Int32)).toInt64)) else (256 : Int64)) else ((if ((fIn xk) = (0 : Int32)) then ((256 : Int64) + ((u5 &&& (255 : Int32)).toInt64)) else (256 : Int64)) + ((u3 &&& (255 : Int32)).toInt64))) else (if ((fIn xk) = (0 : Int32)) then ((256 : Int64) + ((u5 &&& (255 : Int32)).toInt64)) else (256 : Int64))))), .second] [(.long (cs (own_f xi.toNatClampNeg xj.toNatClampNeg xk.toNatClampNeg (u1.toInt8.toInt32) (u3.toInt8.toInt32) (u5.toInt8.toInt32)) 512 0 0))])) t
    refine XS.lload X28.here hx rfl (hb hby at_149) rfl ?_
    show Steps p.tables e below (T28.setTop (mkF m 151 #[.val (.int u0), .val (.int u1), .val (.int u2), .val (.int u3), .val (.int u4), .val (.int u5), .val (.int xi), .val (.int xj), .val (.int xk), .val (.ref b5), .val (.long (if ((fIn xi) = (0 : Int32)) then (if (xi = xj) then (if ((fIn xj) = (0 : Int32)) then (if (xj = xk) then (if ((fIn xk) = (0 : Int32)) then ((256 : Int64) + ((u5 &&& (255 : Int32)).toInt64)) else (256 : Int64)) else ((if ((fIn xk) = (0 : Int32)) then ((256 : Int64) + ((u5 &&& (255 : Int32)).toInt64)) else (256 : Int64)) + ((u3 &&& (255 : Int32)).toInt64))) else (if ((fIn xk) = (0 : Int32)) then ((256 : Int64) + ((u5 &&& (255 : Int32)).toInt64)) else (256 : Int64))) else (if (xi = xk) then (if ((fIn xj) = (0 : Int32)) then (if (xj = xk) then (if ((fIn xk) = (0 : Int32)) then ((256 : Int64) + ((u5 &&& (255 : Int32)).toInt64)) else (256 : Int64)) else ((if ((fIn xk) = (0 : Int32)) then ((256 : Int64) + ((u5 &&& (255 : Int32)).toInt64)) else (256 : Int64)) + ((u3 &&& (255 : Int32)).toInt64))) else (if ((fIn xk) = (0 : Int32)) then ((256 : Int64) + ((u5 &&& (255 : Int32)).toInt64)) else (256 : Int64))) else ((if ((fIn xj) = (0 : Int32)) then (if (xj = xk) then (if ((fIn xk) = (0 : Int32)) then ((256 : Int64) + ((u5 &&& (255 : Int32)).toInt64)) else (256 : Int64)) else ((if ((fIn xk) = (0 : Int32)) then ((256 : Int64) + ((u5 &&& (255 : Int32)).toInt64)) else (256 : Int64)) + ((u3 &&& (255 : Int32)).toInt64))) else (if ((fIn xk) = (0 : Int32)) then ((256 : Int64) + ((u5 &&& (255 : Int32)).toInt64)) else (256 : Int64))) + ((u1 &&& (255 : Int32)).toInt64)))) else (if ((fIn xj) = (0 : Int32)) then (if (xj = xk) then (if ((fIn xk) = (0 : Int32)) then ((256 : Int64) + ((u5 &&& (255 : Int32)).toInt64)) else (256 : Int64)) else ((if ((fIn xk) = (0 : Int32)) then ((256 : Int64) + ((u5 &&& (255 : Int32)).toInt64)) else (256 : Int64)) + ((u3 &&& (255 : Int32)).toInt64))) else (if ((fIn xk) = (0 : Int32)) then ((256 : Int64) + ((u5 &&& (255 : Int32)).toInt64)) else (256 : Int64))))), .second] [(.long (if ((fIn xi) = (0 : Int32)) then (if (xi = xj) then (if ((fIn xj) = (0 : Int32)) then (if (xj = xk) then (if ((fIn xk) = (0 : Int32)) then ((256 : Int64) + ((u5 &&& (255 : Int32)).toInt64)) else (256 : Int64)) else ((if ((fIn xk) = (0 : Int32)) then ((256 : Int64) + ((u5 &&& (255 : Int32)).toInt64)) else (256 : Int64)) + ((u3 &&& (255 : Int32)).toInt64))) else (if ((fIn xk) = (0 : Int32)) then ((256 : Int64) + ((u5 &&& (255 : Int32)).toInt64)) else (256 : Int64))) else (if (xi = xk) then (if ((fIn xj) = (0 : Int32)) then (if (xj = xk) then (if ((fIn xk) = (0 : Int32)) then ((256 : Int64) + ((u5 &&& (255 : Int32)).toInt64)) else (256 : Int64)) else ((if ((fIn xk) = (0 : Int32)) then ((256 : Int64) + ((u5 &&& (255 : Int32)).toInt64)) else (256 : Int64)) + ((u3 &&& (255 : Int32)).toInt64))) else (if ((fIn xk) = (0 : Int32)) then ((256 : Int64) + ((u5 &&& (255 : Int32)).toInt64)) else (256 : Int64))) else ((if ((fIn xj) = (0 : Int32)) then (if (xj = xk) then (if ((fIn xk) = (0 : Int32)) then ((256 : Int64) + ((u5 &&& (255 : Int32)).toInt64)) else (256 : Int64)) else ((if ((fIn xk) = (0 : Int32)) then ((256 : Int64) + ((u5 &&& (255 : Int32)).toInt64)) else (256 : Int64)) + ((u3 &&& (255 : Int32)).toInt64))) else (if ((fIn xk) = (0 : Int32)) then ((256 : Int64) + ((u5 &&& (255 : Int32)).toInt64)) else (256 : Int64))) + ((u1 &&& (255 : Int32)).toInt64)))) else (if ((fIn xj) = (0 : Int32)) then (if (xj = xk) then (if ((fIn xk) = (0 : Int32)) then ((256 : Int64) + ((u5 &&& (255 : Int32)).toInt64)) else (256 : Int64)) else ((if ((fIn xk) = (0 : Int32)) then ((256 : Int64) + ((u5 &&& (255 : Int32)).toInt64)) else (256 : Int64)) + ((u3 &&& (255 : Int32)).toInt64))) else (if ((fIn xk) = (0 : Int32)) then ((256 : Int64) + ((u5 &&& (255 : Int32)).toInt64)) else (256 : Int64))))), (.long (cs (own_f xi.toNatClampNeg xj.toNatClampNeg xk.toNatClampNeg (u1.toInt8.toInt32) (u3.toInt8.toInt32) (u5.toInt8.toInt32)) 512 0 0))])) t
    refine XS.lcmp X28.here hx rfl (hb hby at_151) rfl ?_
    exact k
  refine OFin.go S29 ?_
  have S30 : ∀ t, Steps p.tables e below (T28.setTop (mkF m 155 #[.val (.int u0), .val (.int u1), .val (.int u2), .val (.int u3), .val (.int u4), .val (.int u5), .val (.int xi), .val (.int xj), .val (.int xk), .val (.ref b5), .val (.long (if ((fIn xi) = (0 : Int32)) then (if (xi = xj) then (if ((fIn xj) = (0 : Int32)) then (if (xj = xk) then (if ((fIn xk) = (0 : Int32)) then ((256 : Int64) + ((u5 &&& (255 : Int32)).toInt64)) else (256 : Int64)) else ((if ((fIn xk) = (0 : Int32)) then ((256 : Int64) + ((u5 &&& (255 : Int32)).toInt64)) else (256 : Int64)) + ((u3 &&& (255 : Int32)).toInt64))) else (if ((fIn xk) = (0 : Int32)) then ((256 : Int64) + ((u5 &&& (255 : Int32)).toInt64)) else (256 : Int64))) else (if (xi = xk) then (if ((fIn xj) = (0 : Int32)) then (if (xj = xk) then (if ((fIn xk) = (0 : Int32)) then ((256 : Int64) + ((u5 &&& (255 : Int32)).toInt64)) else (256 : Int64)) else ((if ((fIn xk) = (0 : Int32)) then ((256 : Int64) + ((u5 &&& (255 : Int32)).toInt64)) else (256 : Int64)) + ((u3 &&& (255 : Int32)).toInt64))) else (if ((fIn xk) = (0 : Int32)) then ((256 : Int64) + ((u5 &&& (255 : Int32)).toInt64)) else (256 : Int64))) else ((if ((fIn xj) = (0 : Int32)) then (if (xj = xk) then (if ((fIn xk) = (0 : Int32)) then ((256 : Int64) + ((u5 &&& (255 : Int32)).toInt64)) else (256 : Int64)) else ((if ((fIn xk) = (0 : Int32)) then ((256 : Int64) + ((u5 &&& (255 : Int32)).toInt64)) else (256 : Int64)) + ((u3 &&& (255 : Int32)).toInt64))) else (if ((fIn xk) = (0 : Int32)) then ((256 : Int64) + ((u5 &&& (255 : Int32)).toInt64)) else (256 : Int64))) + ((u1 &&& (255 : Int32)).toInt64)))) else (if ((fIn xj) = (0 : Int32)) then (if (xj = xk) then (if ((fIn xk) = (0 : Int32)) then ((256 : Int64) + ((u5 &&& (255 : Int32)).toInt64)) else (256 : Int64)) else ((if ((fIn xk) = (0 : Int32)) then ((256 : Int64) + ((u5 &&& (255 : Int32)).toInt64)) else (256 : Int64)) + ((u3 &&& (255 : Int32)).toInt64))) else (if ((fIn xk) = (0 : Int32)) then ((256 : Int64) + ((u5 &&& (255 : Int32)).toInt64)) else (256 : Int64))))), .second] [])) t → Steps p.tables e below (T28.setTop (mkF m 152 #[.val (.int u0), .val (.int u1), .val (.int u2), .val (.int u3), .val (.int u4), .val (.int u5), .val (.int xi), .val (.int xj), .val (.int xk), .val (.ref b5), .val (.long (if ((fIn xi) = (0 : Int32)) then (if (xi = xj) then (if ((fIn xj) = (0 : Int32)) then (if (xj = xk) then (if ((fIn xk) = (0 : Int32)) then ((256 : Int64) + ((u5 &&& (255 : Int32)).toInt64)) else (256 : Int64)) else ((if ((fIn xk) = (0 : Int32)) then ((256 : Int64) + ((u5 &&& (255 : Int32)).toInt64)) else (256 : Int64)) + ((u3 &&& (255 : Int32)).toInt64))) else (if ((fIn xk) = (0 : Int32)) then ((256 : Int64) + ((u5 &&& (255 : Int32)).toInt64)) else (256 : Int64))) else (if (xi = xk) then (if ((fIn xj) = (0 : Int32)) then (if (xj = xk) then (if ((fIn xk) = (0 : Int32)) then ((256 : Int64) + ((u5 &&& (255 : Int32)).toInt64)) else (256 : Int64)) else ((if ((fIn xk) = (0 : Int32)) then ((256 : Int64) + ((u5 &&& (255 : Int32)).toInt64)) else (256 : Int64)) + ((u3 &&& (255 : Int32)).toInt64))) else (if ((fIn xk) = (0 : Int32)) then ((256 : Int64) + ((u5 &&& (255 : Int32)).toInt64)) else (256 : Int64))) else ((if ((fIn xj) = (0 : Int32)) then (if (xj = xk) then (if ((fIn xk) = (0 : Int32)) then ((256 : Int64) + ((u5 &&& (255 : Int32)).toInt64)) else (256 : Int64)) else ((if ((fIn xk) = (0 : Int32)) then ((256 : Int64) + ((u5 &&& (255 : Int32)).toInt64)) else (256 : Int64)) + ((u3 &&& (255 : Int32)).toInt64))) else (if ((fIn xk) = (0 : Int32)) then ((256 : Int64) + ((u5 &&& (255 : Int32)).toInt64)) else (256 : Int64))) + ((u1 &&& (255 : Int32)).toInt64)))) else (if ((fIn xj) = (0 : Int32)) then (if (xj = xk) then (if ((fIn xk) = (0 : Int32)) then ((256 : Int64) + ((u5 &&& (255 : Int32)).toInt64)) else (256 : Int64)) else ((if ((fIn xk) = (0 : Int32)) then ((256 : Int64) + ((u5 &&& (255 : Int32)).toInt64)) else (256 : Int64)) + ((u3 &&& (255 : Int32)).toInt64))) else (if ((fIn xk) = (0 : Int32)) then ((256 : Int64) + ((u5 &&& (255 : Int32)).toInt64)) else (256 : Int64))))), .second] [(.int (lcmpW (cs (own_f xi.toNatClampNeg xj.toNatClampNeg xk.toNatClampNeg (u1.toInt8.toInt32) (u3.toInt8.toInt32) (u5.toInt8.toInt32)) 512 0 0) (if ((fIn xi) = (0 : Int32)) then (if (xi = xj) then (if ((fIn xj) = (0 : Int32)) then (if (xj = xk) then (if ((fIn xk) = (0 : Int32)) then ((256 : Int64) + ((u5 &&& (255 : Int32)).toInt64)) else (256 : Int64)) else ((if ((fIn xk) = (0 : Int32)) then ((256 : Int64) + ((u5 &&& (255 : Int32)).toInt64)) else (256 : Int64)) + ((u3 &&& (255 : Int32)).toInt64))) else (if ((fIn xk) = (0 : Int32)) then ((256 : Int64) + ((u5 &&& (255 : Int32)).toInt64)) else (256 : Int64))) else (if (xi = xk) then (if ((fIn xj) = (0 : Int32)) then (if (xj = xk) then (if ((fIn xk) = (0 : Int32)) then ((256 : Int64) + ((u5 &&& (255 : Int32)).toInt64)) else (256 : Int64)) else ((if ((fIn xk) = (0 : Int32)) then ((256 : Int64) + ((u5 &&& (255 : Int32)).toInt64)) else (256 : Int64)) + ((u3 &&& (255 : Int32)).toInt64))) else (if ((fIn xk) = (0 : Int32)) then ((256 : Int64) + ((u5 &&& (255 : Int32)).toInt64)) else (256 : Int64))) else ((if ((fIn xj) = (0 : Int32)) then (if (xj = xk) then (if ((fIn xk) = (0 : Int32)) then ((256 : Int64) + ((u5 &&& (255 : Int32)).toInt64)) else (256 : Int64)) else ((if ((fIn xk) = (0 : Int32)) then ((256 : Int64) + ((u5 &&& (255 : Int32)).toInt64)) else (256 : Int64)) + ((u3 &&& (255 : Int32)).toInt64))) else (if ((fIn xk) = (0 : Int32)) then ((256 : Int64) + ((u5 &&& (255 : Int32)).toInt64)) else (256 : Int64))) + ((u1 &&& (255 : Int32)).toInt64)))) else (if ((fIn xj) = (0 : Int32)) then (if (xj = xk) then (if ((fIn xk) = (0 : Int32)) then ((256 : Int64) + ((u5 &&& (255 : Int32)).toInt64)) else (256 : Int64)) else ((if ((fIn xk) = (0 : Int32)) then ((256 : Int64) + ((u5 &&& (255 : Int32)).toInt64)) else (256 : Int64)) + ((u3 &&& (255 : Int32)).toInt64))) else (if ((fIn xk) = (0 : Int32)) then ((256 : Int64) + ((u5 &&& (255 : Int32)).toInt64)) else (256 : Int64))))))])) t := by
    intro t k
    show Steps p.tables e below (T28.setTop (mkF m 152 #[.val (.int u0), .val (.int u1), .val (.int u2), .val (.int u3), .val (.int u4), .val (.int u5), .val (.int xi), .val (.int xj), .val (.int xk), .val (.ref b5), .val (.long (if ((fIn xi) = (0 : Int32)) then (if (xi = xj) then (if ((fIn xj) = (0 : Int32)) then (if (xj = xk) then (if ((fIn xk) = (0 : Int32)) then ((256 : Int64) + ((u5 &&& (255 : Int32)).toInt64)) else (256 : Int64)) else ((if ((fIn xk) = (0 : Int32)) then ((256 : Int64) + ((u5 &&& (255 : Int32)).toInt64)) else (256 : Int64)) + ((u3 &&& (255 : Int32)).toInt64))) else (if ((fIn xk) = (0 : Int32)) then ((256 : Int64) + ((u5 &&& (255 : Int32)).toInt64)) else (256 : Int64))) else (if (xi = xk) then (if ((fIn xj) = (0 : Int32)) then (if (xj = xk) then (if ((fIn xk) = (0 : Int32)) then ((256 : Int64) + ((u5 &&& (255 : Int32)).toInt64)) else (256 : Int64)) else ((if ((fIn xk) = (0 : Int32)) then ((256 : Int64) + ((u5 &&& (255 : Int32)).toInt64)) else (256 : Int64)) + ((u3 &&& (255 : Int32)).toInt64))) else (if ((fIn xk) = (0 : Int32)) then ((256 : Int64) + ((u5 &&& (255 : Int32)).toInt64)) else (256 : Int64))) else ((if ((fIn xj) = (0 : Int32)) then (if (xj = xk) then (if ((fIn xk) = (0 : Int32)) then ((256 : Int64) + ((u5 &&& (255 : Int32)).toInt64)) else (256 : Int64)) else ((if ((fIn xk) = (0 : Int32)) then ((256 : Int64) + ((u5 &&& (255 : Int32)).toInt64)) else (256 : Int64)) + ((u3 &&& (255 : Int32)).toInt64))) else (if ((fIn xk) = (0 : Int32)) then ((256 : Int64) + ((u5 &&& (255 : Int32)).toInt64)) else (256 : Int64))) + ((u1 &&& (255 : Int32)).toInt64)))) else (if ((fIn xj) = (0 : Int32)) then (if (xj = xk) then (if ((fIn xk) = (0 : Int32)) then ((256 : Int64) + ((u5 &&& (255 : Int32)).toInt64)) else (256 : Int64)) else ((if ((fIn xk) = (0 : Int32)) then ((256 : Int64) + ((u5 &&& (255 : Int32)).toInt64)) else (256 : Int64)) + ((u3 &&& (255 : Int32)).toInt64))) else (if ((fIn xk) = (0 : Int32)) then ((256 : Int64) + ((u5 &&& (255 : Int32)).toInt64)) else (256 : Int64))))), .second] [(.int (lcmpW (cs (own_f xi.toNatClampNeg xj.toNatClampNeg xk.toNatClampNeg (u1.toInt8.toInt32) (u3.toInt8.toInt32) (u5.toInt8.toInt32)) 512 0 0) (if ((fIn xi) = (0 : Int32)) then (if (xi = xj) then (if ((fIn xj) = (0 : Int32)) then (if (xj = xk) then (if ((fIn xk) = (0 : Int32)) then ((256 : Int64) + ((u5 &&& (255 : Int32)).toInt64)) else (256 : Int64)) else ((if ((fIn xk) = (0 : Int32)) then ((256 : Int64) + ((u5 &&& (255 : Int32)).toInt64)) else (256 : Int64)) + ((u3 &&& (255 : Int32)).toInt64))) else (if ((fIn xk) = (0 : Int32)) then ((256 : Int64) + ((u5 &&& (255 : Int32)).toInt64)) else (256 : Int64))) else (if (xi = xk) then (if ((fIn xj) = (0 : Int32)) then (if (xj = xk) then (if ((fIn xk) = (0 : Int32)) then ((256 : Int64) + ((u5 &&& (255 : Int32)).toInt64)) else (256 : Int64)) else ((if ((fIn xk) = (0 : Int32)) then ((256 : Int64) + ((u5 &&& (255 : Int32)).toInt64)) else (256 : Int64)) + ((u3 &&& (255 : Int32)).toInt64))) else (if ((fIn xk) = (0 : Int32)) then ((256 : Int64) + ((u5 &&& (255 : Int32)).toInt64)) else (256 : Int64))) else ((if ((fIn xj) = (0 : Int32)) then (if (xj = xk) then (if ((fIn xk) = (0 : Int32)) then ((256 : Int64) + ((u5 &&& (255 : Int32)).toInt64)) else (256 : Int64)) else ((if ((fIn xk) = (0 : Int32)) then ((256 : Int64) + ((u5 &&& (255 : Int32)).toInt64)) else (256 : Int64)) + ((u3 &&& (255 : Int32)).toInt64))) else (if ((fIn xk) = (0 : Int32)) then ((256 : Int64) + ((u5 &&& (255 : Int32)).toInt64)) else (256 : Int64))) + ((u1 &&& (255 : Int32)).toInt64)))) else (if ((fIn xj) = (0 : Int32)) then (if (xj = xk) then (if ((fIn xk) = (0 : Int32)) then ((256 : Int64) + ((u5 &&& (255 : Int32)).toInt64)) else (256 : Int64)) else ((if ((fIn xk) = (0 : Int32)) then ((256 : Int64) + ((u5 &&& (255 : Int32)).toInt64)) else (256 : Int64)) + ((u3 &&& (255 : Int32)).toInt64))) else (if ((fIn xk) = (0 : Int32)) then ((256 : Int64) + ((u5 &&& (255 : Int32)).toInt64)) else (256 : Int64))))))])) t
    refine XS.ifNo X28.here hx rfl (hb hby at_152) rfl (lc_ne_f (own_law xi xj xk u1 u3 u5 (own_r hxi) (own_r hxj) (own_r hxk))) ?_
    exact k
  refine OFin.go S30 ?_
  have S31 : ∀ t, Steps p.tables e below (T28.setTop (mkF m 160 #[.val (.int u0), .val (.int u1), .val (.int u2), .val (.int u3), .val (.int u4), .val (.int u5), .val (.int xi), .val (.int xj), .val (.int xk), .val (.ref b5), .val (.long (if ((fIn xi) = (0 : Int32)) then (if (xi = xj) then (if ((fIn xj) = (0 : Int32)) then (if (xj = xk) then (if ((fIn xk) = (0 : Int32)) then ((256 : Int64) + ((u5 &&& (255 : Int32)).toInt64)) else (256 : Int64)) else ((if ((fIn xk) = (0 : Int32)) then ((256 : Int64) + ((u5 &&& (255 : Int32)).toInt64)) else (256 : Int64)) + ((u3 &&& (255 : Int32)).toInt64))) else (if ((fIn xk) = (0 : Int32)) then ((256 : Int64) + ((u5 &&& (255 : Int32)).toInt64)) else (256 : Int64))) else (if (xi = xk) then (if ((fIn xj) = (0 : Int32)) then (if (xj = xk) then (if ((fIn xk) = (0 : Int32)) then ((256 : Int64) + ((u5 &&& (255 : Int32)).toInt64)) else (256 : Int64)) else ((if ((fIn xk) = (0 : Int32)) then ((256 : Int64) + ((u5 &&& (255 : Int32)).toInt64)) else (256 : Int64)) + ((u3 &&& (255 : Int32)).toInt64))) else (if ((fIn xk) = (0 : Int32)) then ((256 : Int64) + ((u5 &&& (255 : Int32)).toInt64)) else (256 : Int64))) else ((if ((fIn xj) = (0 : Int32)) then (if (xj = xk) then (if ((fIn xk) = (0 : Int32)) then ((256 : Int64) + ((u5 &&& (255 : Int32)).toInt64)) else (256 : Int64)) else ((if ((fIn xk) = (0 : Int32)) then ((256 : Int64) + ((u5 &&& (255 : Int32)).toInt64)) else (256 : Int64)) + ((u3 &&& (255 : Int32)).toInt64))) else (if ((fIn xk) = (0 : Int32)) then ((256 : Int64) + ((u5 &&& (255 : Int32)).toInt64)) else (256 : Int64))) + ((u1 &&& (255 : Int32)).toInt64)))) else (if ((fIn xj) = (0 : Int32)) then (if (xj = xk) then (if ((fIn xk) = (0 : Int32)) then ((256 : Int64) + ((u5 &&& (255 : Int32)).toInt64)) else (256 : Int64)) else ((if ((fIn xk) = (0 : Int32)) then ((256 : Int64) + ((u5 &&& (255 : Int32)).toInt64)) else (256 : Int64)) + ((u3 &&& (255 : Int32)).toInt64))) else (if ((fIn xk) = (0 : Int32)) then ((256 : Int64) + ((u5 &&& (255 : Int32)).toInt64)) else (256 : Int64))))), .second] [(.int (1 : Int32))])) t → Steps p.tables e below (T28.setTop (mkF m 155 #[.val (.int u0), .val (.int u1), .val (.int u2), .val (.int u3), .val (.int u4), .val (.int u5), .val (.int xi), .val (.int xj), .val (.int xk), .val (.ref b5), .val (.long (if ((fIn xi) = (0 : Int32)) then (if (xi = xj) then (if ((fIn xj) = (0 : Int32)) then (if (xj = xk) then (if ((fIn xk) = (0 : Int32)) then ((256 : Int64) + ((u5 &&& (255 : Int32)).toInt64)) else (256 : Int64)) else ((if ((fIn xk) = (0 : Int32)) then ((256 : Int64) + ((u5 &&& (255 : Int32)).toInt64)) else (256 : Int64)) + ((u3 &&& (255 : Int32)).toInt64))) else (if ((fIn xk) = (0 : Int32)) then ((256 : Int64) + ((u5 &&& (255 : Int32)).toInt64)) else (256 : Int64))) else (if (xi = xk) then (if ((fIn xj) = (0 : Int32)) then (if (xj = xk) then (if ((fIn xk) = (0 : Int32)) then ((256 : Int64) + ((u5 &&& (255 : Int32)).toInt64)) else (256 : Int64)) else ((if ((fIn xk) = (0 : Int32)) then ((256 : Int64) + ((u5 &&& (255 : Int32)).toInt64)) else (256 : Int64)) + ((u3 &&& (255 : Int32)).toInt64))) else (if ((fIn xk) = (0 : Int32)) then ((256 : Int64) + ((u5 &&& (255 : Int32)).toInt64)) else (256 : Int64))) else ((if ((fIn xj) = (0 : Int32)) then (if (xj = xk) then (if ((fIn xk) = (0 : Int32)) then ((256 : Int64) + ((u5 &&& (255 : Int32)).toInt64)) else (256 : Int64)) else ((if ((fIn xk) = (0 : Int32)) then ((256 : Int64) + ((u5 &&& (255 : Int32)).toInt64)) else (256 : Int64)) + ((u3 &&& (255 : Int32)).toInt64))) else (if ((fIn xk) = (0 : Int32)) then ((256 : Int64) + ((u5 &&& (255 : Int32)).toInt64)) else (256 : Int64))) + ((u1 &&& (255 : Int32)).toInt64)))) else (if ((fIn xj) = (0 : Int32)) then (if (xj = xk) then (if ((fIn xk) = (0 : Int32)) then ((256 : Int64) + ((u5 &&& (255 : Int32)).toInt64)) else (256 : Int64)) else ((if ((fIn xk) = (0 : Int32)) then ((256 : Int64) + ((u5 &&& (255 : Int32)).toInt64)) else (256 : Int64)) + ((u3 &&& (255 : Int32)).toInt64))) else (if ((fIn xk) = (0 : Int32)) then ((256 : Int64) + ((u5 &&& (255 : Int32)).toInt64)) else (256 : Int64))))), .second] [])) t := by
    intro t k
    show Steps p.tables e below (T28.setTop (mkF m 155 #[.val (.int u0), .val (.int u1), .val (.int u2), .val (.int u3), .val (.int u4), .val (.int u5), .val (.int xi), .val (.int xj), .val (.int xk), .val (.ref b5), .val (.long (if ((fIn xi) = (0 : Int32)) then (if (xi = xj) then (if ((fIn xj) = (0 : Int32)) then (if (xj = xk) then (if ((fIn xk) = (0 : Int32)) then ((256 : Int64) + ((u5 &&& (255 : Int32)).toInt64)) else (256 : Int64)) else ((if ((fIn xk) = (0 : Int32)) then ((256 : Int64) + ((u5 &&& (255 : Int32)).toInt64)) else (256 : Int64)) + ((u3 &&& (255 : Int32)).toInt64))) else (if ((fIn xk) = (0 : Int32)) then ((256 : Int64) + ((u5 &&& (255 : Int32)).toInt64)) else (256 : Int64))) else (if (xi = xk) then (if ((fIn xj) = (0 : Int32)) then (if (xj = xk) then (if ((fIn xk) = (0 : Int32)) then ((256 : Int64) + ((u5 &&& (255 : Int32)).toInt64)) else (256 : Int64)) else ((if ((fIn xk) = (0 : Int32)) then ((256 : Int64) + ((u5 &&& (255 : Int32)).toInt64)) else (256 : Int64)) + ((u3 &&& (255 : Int32)).toInt64))) else (if ((fIn xk) = (0 : Int32)) then ((256 : Int64) + ((u5 &&& (255 : Int32)).toInt64)) else (256 : Int64))) else ((if ((fIn xj) = (0 : Int32)) then (if (xj = xk) then (if ((fIn xk) = (0 : Int32)) then ((256 : Int64) + ((u5 &&& (255 : Int32)).toInt64)) else (256 : Int64)) else ((if ((fIn xk) = (0 : Int32)) then ((256 : Int64) + ((u5 &&& (255 : Int32)).toInt64)) else (256 : Int64)) + ((u3 &&& (255 : Int32)).toInt64))) else (if ((fIn xk) = (0 : Int32)) then ((256 : Int64) + ((u5 &&& (255 : Int32)).toInt64)) else (256 : Int64))) + ((u1 &&& (255 : Int32)).toInt64)))) else (if ((fIn xj) = (0 : Int32)) then (if (xj = xk) then (if ((fIn xk) = (0 : Int32)) then ((256 : Int64) + ((u5 &&& (255 : Int32)).toInt64)) else (256 : Int64)) else ((if ((fIn xk) = (0 : Int32)) then ((256 : Int64) + ((u5 &&& (255 : Int32)).toInt64)) else (256 : Int64)) + ((u3 &&& (255 : Int32)).toInt64))) else (if ((fIn xk) = (0 : Int32)) then ((256 : Int64) + ((u5 &&& (255 : Int32)).toInt64)) else (256 : Int64))))), .second] [])) t
    refine XS.iconst X28.here hx rfl (hb hby at_155) ?_
    show Steps p.tables e below (T28.setTop (mkF m 156 #[.val (.int u0), .val (.int u1), .val (.int u2), .val (.int u3), .val (.int u4), .val (.int u5), .val (.int xi), .val (.int xj), .val (.int xk), .val (.ref b5), .val (.long (if ((fIn xi) = (0 : Int32)) then (if (xi = xj) then (if ((fIn xj) = (0 : Int32)) then (if (xj = xk) then (if ((fIn xk) = (0 : Int32)) then ((256 : Int64) + ((u5 &&& (255 : Int32)).toInt64)) else (256 : Int64)) else ((if ((fIn xk) = (0 : Int32)) then ((256 : Int64) + ((u5 &&& (255 : Int32)).toInt64)) else (256 : Int64)) + ((u3 &&& (255 : Int32)).toInt64))) else (if ((fIn xk) = (0 : Int32)) then ((256 : Int64) + ((u5 &&& (255 : Int32)).toInt64)) else (256 : Int64))) else (if (xi = xk) then (if ((fIn xj) = (0 : Int32)) then (if (xj = xk) then (if ((fIn xk) = (0 : Int32)) then ((256 : Int64) + ((u5 &&& (255 : Int32)).toInt64)) else (256 : Int64)) else ((if ((fIn xk) = (0 : Int32)) then ((256 : Int64) + ((u5 &&& (255 : Int32)).toInt64)) else (256 : Int64)) + ((u3 &&& (255 : Int32)).toInt64))) else (if ((fIn xk) = (0 : Int32)) then ((256 : Int64) + ((u5 &&& (255 : Int32)).toInt64)) else (256 : Int64))) else ((if ((fIn xj) = (0 : Int32)) then (if (xj = xk) then (if ((fIn xk) = (0 : Int32)) then ((256 : Int64) + ((u5 &&& (255 : Int32)).toInt64)) else (256 : Int64)) else ((if ((fIn xk) = (0 : Int32)) then ((256 : Int64) + ((u5 &&& (255 : Int32)).toInt64)) else (256 : Int64)) + ((u3 &&& (255 : Int32)).toInt64))) else (if ((fIn xk) = (0 : Int32)) then ((256 : Int64) + ((u5 &&& (255 : Int32)).toInt64)) else (256 : Int64))) + ((u1 &&& (255 : Int32)).toInt64)))) else (if ((fIn xj) = (0 : Int32)) then (if (xj = xk) then (if ((fIn xk) = (0 : Int32)) then ((256 : Int64) + ((u5 &&& (255 : Int32)).toInt64)) else (256 : Int64)) else ((if ((fIn xk) = (0 : Int32)) then ((256 : Int64) + ((u5 &&& (255 : Int32)).toInt64)) else (256 : Int64)) + ((u3 &&& (255 : Int32)).toInt64))) else (if ((fIn xk) = (0 : Int32)) then ((256 : Int64) + ((u5 &&& (255 : Int32)).toInt64)) else (256 : Int64))))), .second] [(.int (1 : Int32))])) t
    refine XS.goto X28.here hx rfl (pc0 := 156) (pc' := 160) rfl (hb hby at_156) (by decide) (by decide) ?_
    exact k
  refine OFin.go S31 ?_
  exact finZ X28 hx Bd.notSynchronized (t := .boolean) Bd.returns (by simp) (hb hby at_160) rfl (by decide) (by decide) (⟨congrArg (fun z => some (Value.int z)) (rfl : (1 : Int32) = (1 : Int32)), N28⟩)
set_option maxRecDepth 65536 in
set_option maxHeartbeats 40000000 in
theorem comes_1 {Post : Tables → Env → Array Value → State → Outcome → State → Prop} (hpost : ∀ tb e args s v u, (limb_1_1.after args s (.returned v) u = true ∧ limb_1_2.after args s (.returned v) u = true ∧ True) → FrameEnd s (.returned v) u (Jvm.fieldLocs frame_1_writes args s ++ Jvm.arrayLocs frame_1_arrays args s ++ Jvm.staticLocs frame_1_statics s) 16 1088 → Post tb e args s (.returned v) u) :
    ArmFor flags0 classFile x code maxLocals ret World_1 tables_1 room_1 Calls_1 rest_1 Pre_1 Post := by
  intro l hfl _ _ p e ha hc hk s m args below hf hA hF happ hP
  obtain ⟨hcalls, hrest, hpre⟩ := hP
  obtain ⟨-, -, -, hnamed, -, -, -, hat⟩ := (Spec.applies_iff hf).mp happ
  obtain ⟨hg, hn⟩ := and_e (Cond.before_iff.mp (show (Jvm.Cond.and given_1 narrow_1).before args s = true from hpre))
  obtain ⟨gg2, gg3⟩ := and_e hg
  obtain ⟨gg4, gg5⟩ := and_e gg3
  obtain ⟨gg6, gg7⟩ := and_e gg5
  obtain ⟨gg8, gg9⟩ := and_e gg7
  obtain ⟨gg10, gg11⟩ := and_e gg9
  obtain ⟨gg12, gg13⟩ := and_e gg11
  obtain ⟨w0, w1, w2, w3, w4, w5, rfl⟩ : ∃ w0 w1 w2 w3 w4 w5 : Value, args = #[w0, w1, w2, w3, w4, w5] := by
    have hs : args.size = 6 := by simpa [Cond.value, given_1] using gg2
    obtain ⟨L⟩ := args
    match L, hs with
    | [w0, w1, w2, w3, w4, w5], _ => exact ⟨w0, w1, w2, w3, w4, w5, rfl⟩
  have hw := fun d (hd : d ∈ tables_1) => atoms_spec (ws := Jvm.Cond.code x code maxLocals ret :: tables_1) hat d (List.mem_cons_of_mem _ hd)
  have hfit : Fit s := fun {y c} hc i hi => by
    obtain ⟨ha, rfl⟩ := Array.getElem?_eq_some_iff.mp hc
    have q := List.all_eq_true.mp ((Array.all_eq_true_iff_forall_mem.mp hF) _ (Array.getElem_mem ha)) i (List.mem_range.mpr hi)
    simpa [Array.getElem?_eq_getElem hi] using q
  obtain ⟨i0, ei0⟩ := is_v gg4
  obtain rfl : w0 = (.int i0) := Option.some.inj ei0
  obtain ⟨i1, ei1⟩ := is_v gg6
  obtain rfl : w1 = (.int i1) := Option.some.inj ei1
  obtain ⟨i2, ei2⟩ := is_v gg8
  obtain rfl : w2 = (.int i2) := Option.some.inj ei2
  obtain ⟨i3, ei3⟩ := is_v gg10
  obtain rfl : w3 = (.int i3) := Option.some.inj ei3
  obtain ⟨i4, ei4⟩ := is_v gg12
  obtain rfl : w4 = (.int i4) := Option.some.inj ei4
  obtain ⟨i5, ei5⟩ := is_v gg13
  obtain rfl : w5 = (.int i5) := Option.some.inj ei5
  obtain ⟨n, o, h1, h2, h3, _, L, rfl, ⟨rfl, N⟩, hq⟩ := rm0 l s _ hw tables_1 i0 i1 i2 i3 i4 i5 s.heap s.heap.size (Nat.le_refl _)  p e ha hc hk s m _ below hf ((Spec.applies_iff_loose hf).mp happ).1 ⟨rfl, State.Warmed39.refl s, rfl⟩ trivial
  refine ⟨n, _, h1, h2, h3, hpost _ _ _ _ _ _ ⟨Cond.after_iff.mpr rfl, Cond.after_iff.mpr (eq_i res_at (Term.int_eval (1)) rfl), trivial⟩ ⟨hq.1, hq.2.1, (hq.2.2.sift fun y hy => Or.inr (N y hy)).mono (by decide) (by decide)⟩⟩
theorem main_1_1 : Claimed_1_1 := comes_1 fun _ _ _ _ _ _ h hF => ⟨h.1, hF⟩
theorem main_1_2 : Claimed_1_2 := comes_1 fun _ _ _ _ _ _ h hF => ⟨h.2.1, hF⟩
end Jvm.Pilot.@@N@@
namespace Jvm.Pilot.@@N@@
open Jvm Jvm.ClassFile Sem Op Lib Jvm.Free Jvm.Stand Jvm.Pilot.@@N@@.Jvm.D
/-! MADE BY PROGRAM (witnessworld.py) out of the Statement's table words and the real class files: 9 classes; the members and pool entries that the words name. The judged class is class 1, her method 1. -/
namespace start1
open Jvm.ClassFile
def u (s : String) : CpInfo := .utf8 (stringToUtf16 s)
/-- a pool by its gaps: so many unusable entries, then the entry; so many at the end -/
def gap : Nat → List CpInfo → List CpInfo
  | 0, r => r
  | n + 1, r => .unusable :: gap n r
def poolList (es : List (Nat × CpInfo)) (last : Nat) : List CpInfo := es.foldr (fun e r => gap e.1 (e.2 :: r)) (gap last [])
def pool (es : List (Nat × CpInfo)) (last : Nat) : Array CpInfo := ⟨poolList es last⟩
def fileOf (pool : Array CpInfo) (this : Nat) (attrs : Array Attribute := #[]) (ms : Array MethodInfo := #[]) (fl : Nat := 33) (sup : Nat := 0) (ifs : Array Nat := #[]) (fds : Array FieldInfo := #[]) : ClassFile where
  minorVersion := 0
  majorVersion := 65
  constantPool := pool
  accessFlags := fl
  thisClass := this
  superClass := sup
  interfaces := ifs
  fields := fds
  methods := ms
  attributes := attrs
def plain (name : String) (sup : Option ClassId) : Class where
  name := name
  kind := .ordinary
  loader := none
  accessFlags := 33
  super := sup
  interfaces := #[]
  cf := none
  fields := #[]
  methods := #[]
  instanceTypes := #[]
  staticTypes := #[]
  resolved := #[]
  callSites := []
  init := .initialized
  statics := none
  mirror := none

def pool0 : Array CpInfo := pool [(5, u "<init>"), (0, u "()V"), (1, .class_ 10), (1, u "java/lang/Object")] 113

def k0m0 : Method := { name := "<init>", desc := "()V", sig := { parameters := [], returnType := none }, accessFlags := 1, code := none }
/-- java/lang/Object -/
def k0 : Class := { plain "java/lang/Object" none with
  accessFlags := 33
  interfaces := #[]
  cf := some (fileOf pool0 8 #[] #[{ accessFlags := 1, nameIndex := 5, descriptorIndex := 6, attributes := #[] }] 33 0 #[] #[])
  fields := #[]
  methods := #[k0m0]
  instanceTypes := #[]
  staticTypes := #[]
  resolved := Array.replicate 124 none
  statics := none }

def pool1 : Array CpInfo := pool [(2, .class_ 4), (1, u "java/lang/Object"), (0, u "<init>"), (0, u "()V"), (0, .integer 2147483647), (0, .long 256), (1, .methodref 11 12), (0, .class_ 13), (0, .nameAndType 14 15), (0, u "com/example/stowage/stowage/core/TarChecksumPinLaw"), (0, u "inField"), (0, u "(I)Z"), (0, .methodref 17 18), (0, .class_ 19), (0, .nameAndType 20 21), (0, u "com/example/stowage/stowage/core/Tar"), (0, u "checksum"), (0, u "([B)J"), (2, u "law"), (0, u "(IIIIII)Z")] 5

def k1m0 : Method := { name := "<init>", desc := "()V", sig := { parameters := [], returnType := none }, accessFlags := 1, code := none }
def k1c1 : Code := { maxStack := 4, maxLocals := 12, code := code, exceptionTable := #[], attributes := #[] }
def k1m1 : Method := { name := "law", desc := "(IIIIII)Z", sig := { parameters := [.int, .int, .int, .int, .int, .int], returnType := some .boolean }, accessFlags := 9, code := some k1c1 }
def k1c2 : Code := { maxStack := 2, maxLocals := 1, code := method_3_code, exceptionTable := #[], attributes := #[] }
def k1m2 : Method := { name := "inField", desc := "(I)Z", sig := { parameters := [.int], returnType := some .boolean }, accessFlags := 10, code := some k1c2 }
/-- com/example/stowage/stowage/core/TarChecksumPinLaw -/
def k1 : Class := { plain "com/example/stowage/stowage/core/TarChecksumPinLaw" (some 0) with
  accessFlags := 49
  interfaces := #[]
  cf := some (fileOf pool1 11 #[] #[{ accessFlags := 1, nameIndex := 5, descriptorIndex := 6, attributes := #[] }, { accessFlags := 9, nameIndex := 24, descriptorIndex := 25, attributes := #[] }, { accessFlags := 10, nameIndex := 14, descriptorIndex := 15, attributes := #[] }] 49 2 #[] #[])
  fields := #[]
  methods := #[k1m0, k1m1, k1m2]
  instanceTypes := #[]
  staticTypes := #[]
  resolved := Array.replicate 31 none
  statics := none }

def pool2 : Array CpInfo := pool [(1, .class_ 2), (0, u "com/example/stowage/stowage/core/Tar"), (1, .class_ 6), (1, u "java/lang/Object"), (0, u "<init>"), (0, u "()V"), (26, .long 32), (6, u "checksum"), (0, u "([B)J"), (20, u "POSIX_MAGIC"), (0, u "[B"), (4, u "POSIX_VERSION"), (4, u "GNU_MAGIC"), (0, u "BLOCK"), (0, u "I"), (2, u "RECORD"), (1, u "NAME"), (1, u "NAME_LENGTH"), (1, u "MODE"), (0, u "UID"), (1, u "GID"), (1, u "SIZE"), (1, u "SIZE_LENGTH"), (1, u "MTIME"), (1, u "CHECKSUM"), (1, u "CHECKSUM_LENGTH"), (1, u "TYPE"), (1, u "LINK_NAME"), (1, u "MAGIC"), (1, u "VERSION"), (1, u "DEVICE_MAJOR"), (1, u "DEVICE_MINOR"), (1, u "PREFIX"), (1, u "PREFIX_LENGTH"), (1, u "NUMBER_LENGTH"), (0, u "REGULAR"), (0, u "B"), (1, u "OLD_REGULAR"), (0, u "HARD_LINK"), (1, u "SYMBOLIC_LINK"), (1, u "DIRECTORY"), (1, u "CONTIGUOUS"), (1, u "PAX"), (1, u "PAX_GLOBAL"), (1, u "GNU_LONG_NAME"), (1, u "GNU_LONG_LINK_NAME"), (1, u "GNU_VOLUME"), (1, u "OCTAL_LIMIT"), (0, u "J")] 14

def k2m0 : Method := { name := "<init>", desc := "()V", sig := { parameters := [], returnType := none }, accessFlags := 2, code := none }
def k2c1 : Code := { maxStack := 4, maxLocals := 5, code := prog_84_method_5_code, exceptionTable := #[], attributes := #[] }
def k2m1 : Method := { name := "checksum", desc := "([B)J", sig := { parameters := [(.array .byte)], returnType := some .long }, accessFlags := 8, code := some k2c1 }
/-- com/example/stowage/stowage/core/Tar -/
def k2 : Class := { plain "com/example/stowage/stowage/core/Tar" (some 0) with
  accessFlags := 48
  interfaces := #[]
  cf := some (fileOf pool2 1 #[] #[{ accessFlags := 2, nameIndex := 7, descriptorIndex := 8, attributes := #[] }, { accessFlags := 8, nameIndex := 42, descriptorIndex := 43, attributes := #[] }] 48 4 #[] #[{ accessFlags := 24, nameIndex := 76, descriptorIndex := 77, attributes := #[] }, { accessFlags := 24, nameIndex := 80, descriptorIndex := 77, attributes := #[] }, { accessFlags := 24, nameIndex := 82, descriptorIndex := 77, attributes := #[] }, { accessFlags := 24, nameIndex := 84, descriptorIndex := 77, attributes := #[] }, { accessFlags := 24, nameIndex := 86, descriptorIndex := 77, attributes := #[] }, { accessFlags := 24, nameIndex := 87, descriptorIndex := 77, attributes := #[] }, { accessFlags := 24, nameIndex := 89, descriptorIndex := 77, attributes := #[] }, { accessFlags := 24, nameIndex := 91, descriptorIndex := 77, attributes := #[] }, { accessFlags := 24, nameIndex := 93, descriptorIndex := 77, attributes := #[] }, { accessFlags := 24, nameIndex := 95, descriptorIndex := 77, attributes := #[] }, { accessFlags := 24, nameIndex := 97, descriptorIndex := 77, attributes := #[] }, { accessFlags := 24, nameIndex := 99, descriptorIndex := 77, attributes := #[] }, { accessFlags := 24, nameIndex := 101, descriptorIndex := 77, attributes := #[] }, { accessFlags := 24, nameIndex := 103, descriptorIndex := 77, attributes := #[] }, { accessFlags := 24, nameIndex := 105, descriptorIndex := 77, attributes := #[] }, { accessFlags := 24, nameIndex := 107, descriptorIndex := 77, attributes := #[] }, { accessFlags := 24, nameIndex := 109, descriptorIndex := 77, attributes := #[] }, { accessFlags := 24, nameIndex := 111, descriptorIndex := 77, attributes := #[] }, { accessFlags := 24, nameIndex := 113, descriptorIndex := 77, attributes := #[] }, { accessFlags := 24, nameIndex := 115, descriptorIndex := 77, attributes := #[] }, { accessFlags := 24, nameIndex := 117, descriptorIndex := 77, attributes := #[] }, { accessFlags := 24, nameIndex := 64, descriptorIndex := 65, attributes := #[] }, { accessFlags := 24, nameIndex := 70, descriptorIndex := 65, attributes := #[] }, { accessFlags := 24, nameIndex := 75, descriptorIndex := 65, attributes := #[] }, { accessFlags := 24, nameIndex := 118, descriptorIndex := 119, attributes := #[] }, { accessFlags := 24, nameIndex := 121, descriptorIndex := 119, attributes := #[] }, { accessFlags := 24, nameIndex := 122, descriptorIndex := 119, attributes := #[] }, { accessFlags := 24, nameIndex := 124, descriptorIndex := 119, attributes := #[] }, { accessFlags := 24, nameIndex := 126, descriptorIndex := 119, attributes := #[] }, { accessFlags := 24, nameIndex := 128, descriptorIndex := 119, attributes := #[] }, { accessFlags := 24, nameIndex := 130, descriptorIndex := 119, attributes := #[] }, { accessFlags := 24, nameIndex := 132, descriptorIndex := 119, attributes := #[] }, { accessFlags := 24, nameIndex := 134, descriptorIndex := 119, attributes := #[] }, { accessFlags := 24, nameIndex := 136, descriptorIndex := 119, attributes := #[] }, { accessFlags := 24, nameIndex := 138, descriptorIndex := 119, attributes := #[] }, { accessFlags := 24, nameIndex := 140, descriptorIndex := 141, attributes := #[] }])
  fields := #[{ name := "BLOCK", type := .int, accessFlags := 24, slot := 0, constantValue := 0 }, { name := "RECORD", type := .int, accessFlags := 24, slot := 1, constantValue := 0 }, { name := "NAME", type := .int, accessFlags := 24, slot := 2, constantValue := 0 }, { name := "NAME_LENGTH", type := .int, accessFlags := 24, slot := 3, constantValue := 0 }, { name := "MODE", type := .int, accessFlags := 24, slot := 4, constantValue := 0 }, { name := "UID", type := .int, accessFlags := 24, slot := 5, constantValue := 0 }, { name := "GID", type := .int, accessFlags := 24, slot := 6, constantValue := 0 }, { name := "SIZE", type := .int, accessFlags := 24, slot := 7, constantValue := 0 }, { name := "SIZE_LENGTH", type := .int, accessFlags := 24, slot := 8, constantValue := 0 }, { name := "MTIME", type := .int, accessFlags := 24, slot := 9, constantValue := 0 }, { name := "CHECKSUM", type := .int, accessFlags := 24, slot := 10, constantValue := 0 }, { name := "CHECKSUM_LENGTH", type := .int, accessFlags := 24, slot := 11, constantValue := 0 }, { name := "TYPE", type := .int, accessFlags := 24, slot := 12, constantValue := 0 }, { name := "LINK_NAME", type := .int, accessFlags := 24, slot := 13, constantValue := 0 }, { name := "MAGIC", type := .int, accessFlags := 24, slot := 14, constantValue := 0 }, { name := "VERSION", type := .int, accessFlags := 24, slot := 15, constantValue := 0 }, { name := "DEVICE_MAJOR", type := .int, accessFlags := 24, slot := 16, constantValue := 0 }, { name := "DEVICE_MINOR", type := .int, accessFlags := 24, slot := 17, constantValue := 0 }, { name := "PREFIX", type := .int, accessFlags := 24, slot := 18, constantValue := 0 }, { name := "PREFIX_LENGTH", type := .int, accessFlags := 24, slot := 19, constantValue := 0 }, { name := "NUMBER_LENGTH", type := .int, accessFlags := 24, slot := 20, constantValue := 0 }, { name := "POSIX_MAGIC", type := (.array .byte), accessFlags := 24, slot := 21, constantValue := 0 }, { name := "POSIX_VERSION", type := (.array .byte), accessFlags := 24, slot := 22, constantValue := 0 }, { name := "GNU_MAGIC", type := (.array .byte), accessFlags := 24, slot := 23, constantValue := 0 }, { name := "REGULAR", type := .byte, accessFlags := 24, slot := 24, constantValue := 0 }, { name := "OLD_REGULAR", type := .byte, accessFlags := 24, slot := 25, constantValue := 0 }, { name := "HARD_LINK", type := .byte, accessFlags := 24, slot := 26, constantValue := 0 }, { name := "SYMBOLIC_LINK", type := .byte, accessFlags := 24, slot := 27, constantValue := 0 }, { name := "DIRECTORY", type := .byte, accessFlags := 24, slot := 28, constantValue := 0 }, { name := "CONTIGUOUS", type := .byte, accessFlags := 24, slot := 29, constantValue := 0 }, { name := "PAX", type := .byte, accessFlags := 24, slot := 30, constantValue := 0 }, { name := "PAX_GLOBAL", type := .byte, accessFlags := 24, slot := 31, constantValue := 0 }, { name := "GNU_LONG_NAME", type := .byte, accessFlags := 24, slot := 32, constantValue := 0 }, { name := "GNU_LONG_LINK_NAME", type := .byte, accessFlags := 24, slot := 33, constantValue := 0 }, { name := "GNU_VOLUME", type := .byte, accessFlags := 24, slot := 34, constantValue := 0 }, { name := "OCTAL_LIMIT", type := .long, accessFlags := 24, slot := 35, constantValue := 0 }]
  methods := #[k2m0, k2m1]
  instanceTypes := #[]
  staticTypes := #[.int, .int, .int, .int, .int, .int, .int, .int, .int, .int, .int, .int, .int, .int, .int, .int, .int, .int, .int, .int, .int, (.array .byte), (.array .byte), (.array .byte), .byte, .byte, .byte, .byte, .byte, .byte, .byte, .byte, .byte, .byte, .byte, .long]
  resolved := Array.replicate 156 none
  statics := none }

def pool3 : Array CpInfo := pool [(1, u "java/lang/Cloneable"), (0, .class_ 1), (0, u "java/lang/Object"), (0, .class_ 3)] 3

/-- java/lang/Cloneable -/
def k3 : Class := { plain "java/lang/Cloneable" (some 0) with
  accessFlags := 1537
  interfaces := #[]
  cf := some (fileOf pool3 2 #[] #[] 1537 4 #[] #[])
  fields := #[]
  methods := #[]
  instanceTypes := #[]
  staticTypes := #[]
  resolved := Array.replicate 8 none
  statics := none }

def pool4 : Array CpInfo := pool [(1, u "java/io/Serializable"), (0, .class_ 1), (0, u "java/lang/Object"), (0, .class_ 3)] 3

/-- java/io/Serializable -/
def k4 : Class := { plain "java/io/Serializable" (some 0) with
  accessFlags := 1537
  interfaces := #[]
  cf := some (fileOf pool4 2 #[] #[] 1537 4 #[] #[])
  fields := #[]
  methods := #[]
  instanceTypes := #[]
  staticTypes := #[]
  resolved := Array.replicate 8 none
  statics := none }

/-- the primitive byte -/
def k5 : Class := { plain "byte" none with kind := .primitive 'B', accessFlags := 0x411 }
/-- [B -/
def k6 : Class := { plain "[B" (some 0) with kind := .array 5 .byte, interfaces := #[3, 4], accessFlags := 1041 }

/-- the primitive int -/
def k7 : Class := { plain "int" none with kind := .primitive 'I', accessFlags := 0x411 }
/-- [I -/
def k8 : Class := { plain "[I" (some 0) with kind := .array 7 .int, interfaces := #[3, 4], accessFlags := 1041 }

def heap : Heap := #[]
def classes : Array Class := #[k0, k1, k2, k3, k4, k5, k6, k7, k8]
def interned : List (Array UInt16 × Addr) := []
def slotsUsed : Nat := 0
def theMethod : MethodId := ⟨1, 1⟩
def args0 : Array Value := #[.int 1, .int 2, .int 3, .int 4, .int 5, .int 6]
def aboutOver (below : List Frame) : State where
  vm := { classes := classes, interned := interned.toArray }
  heap := heap
  slotsUsed := slotsUsed
  threads := #[{ frames := .invoking theMethod args0 :: below }]
def below0 : List Frame := [.native { method := ⟨0, 0⟩, args := #[] }]
def about1 : State := aboutOver below0
def p0 : Program := .bare "" "" ""
def e0 : Env := launch0.env 0 0 0
theorem w_frames : about1.frames = Frame.invoking theMethod args0 :: below0 := rfl
set_option maxRecDepth 65536 in
theorem w_args : argsFit about1.vm theMethod args0 = true := by decide +kernel
set_option maxRecDepth 65536 in
theorem w_heap : heapFits about1 = true := by decide +kernel
set_option maxRecDepth 65536 in
theorem w_runnable : about1.curStatus? = some .runnable := by decide +kernel
set_option maxRecDepth 65536 in
theorem w_alone : about1.alone = true := by decide +kernel
set_option maxRecDepth 65536 in
theorem w_named : about1.methodNamed? x = some theMethod := by decide +kernel
set_option maxRecDepth 65536 in
theorem w_hears : about1.hears theMethod below0 = true := by decide +kernel
set_option maxRecDepth 65536 in
theorem w_ripe : about1.ripe theMethod args0 below0 = true := by decide +kernel
theorem w_running : about1.status = .running := rfl
set_option maxRecDepth 65536 in
theorem w_room : about1.hasRoom e0.platform room_1 = true :=
  launch0.hasRoom_least _ room_1 (by decide +kernel) (by decide +kernel) (by decide +kernel) (by decide +kernel) (by decide +kernel) (by decide +kernel)
theorem allAtoms_all (ts : List Jvm.Cond) (a : Array Jvm.Value) (st : Jvm.State) : (allAtoms ts).before a st = ts.all (fun c => c.before a st) := by
  induction ts with
  | nil => rfl
  | cons c t ih =>
    show (Jvm.Cond.and c (allAtoms t)).before a st = _
    rw [Jvm.Cond.before_and, ih, List.all_cons]
def words1 : List Jvm.Cond := Jvm.Cond.code x code maxLocals ret :: tables_1
/-- a 'code' word, met by the world's own term for the bytes: nothing is compared byte by byte -/
theorem code_word {y : MethodName} {bytes : ByteArray} {mx : Nat} {rt : Option FieldType} {a : Array Value} {s : State} {m : MethodId} {meth : Method} {c : Code} (h1 : s.methodNamed? y = some m) (h2 : s.vm.method? m = some meth) (h3 : meth.code = some c) (h4 : c.code = bytes)
    (h5 : (c.maxLocals == mx && c.exceptionTable.isEmpty && decide (c.maxStack ≤ mostOperands) && decide (meth.sig.returnType = rt) && !meth.locks && decide (parseMethodDescriptor y.desc = some meth.sig)) = true) : (Jvm.Cond.code y bytes mx rt).before a s = true := by
  simp only [Bool.and_eq_true, beq_iff_eq, Bool.not_eq_true', decide_eq_true_eq] at h5
  obtain ⟨⟨⟨⟨⟨g1, g2⟩, g3⟩, g4⟩, g5⟩, g6⟩ := h5
  simp [Cond.before, Cond.holds, Cond.value, h1, h2, h3, h4, g1, g2, g3, g4, g5, g6]
def isCode : Jvm.Cond → Bool
  | .code _ _ _ _ => true
  | _ => false
theorem all_split {L : List Jvm.Cond} {P : Jvm.Cond → Bool} (h1 : L.all (fun c => isCode c || P c) = true) (h2 : ∀ c ∈ L.filter isCode, P c = true) : L.all P = true := by
  refine List.all_eq_true.mpr fun c hc => ?_
  have h := List.all_eq_true.mp h1 c hc
  rcases Bool.eq_false_or_eq_true (isCode c) with hi | hi
  · exact h2 c (List.mem_filter.mpr ⟨hc, hi⟩)
  · simpa [hi] using h
set_option maxRecDepth 65536 in
theorem w_c0 : (Jvm.Cond.code x code maxLocals ret).before args0 about1 = true := code_word (m := ⟨1, 1⟩) (meth := k1m1) (c := k1c1) (by decide +kernel) rfl rfl rfl (by decide +kernel)
set_option maxRecDepth 65536 in
theorem w_c1 : (Jvm.Cond.code ({ cls := "com/example/stowage/stowage/core/TarChecksumPinLaw", name := "inField", desc := "(I)Z" } : Jvm.MethodName) method_3_code (1 : Nat) (Option.some Jvm.ClassFile.FieldType.boolean)).before args0 about1 = true := code_word (m := ⟨1, 2⟩) (meth := k1m2) (c := k1c2) (by decide +kernel) rfl rfl rfl (by decide +kernel)
set_option maxRecDepth 65536 in
theorem w_c2 : (Jvm.Cond.code ({ cls := "com/example/stowage/stowage/core/Tar", name := "checksum", desc := "([B)J" } : Jvm.MethodName) prog_84_method_5_code (5 : Nat) (Option.some Jvm.ClassFile.FieldType.long)).before args0 about1 = true := code_word (m := ⟨2, 1⟩) (meth := k2m1) (c := k2c1) (by decide +kernel) rfl rfl rfl (by decide +kernel)
def codes1 : List Jvm.Cond := [Jvm.Cond.code x code maxLocals ret, Jvm.Cond.code ({ cls := "com/example/stowage/stowage/core/TarChecksumPinLaw", name := "inField", desc := "(I)Z" } : Jvm.MethodName) method_3_code (1 : Nat) (Option.some Jvm.ClassFile.FieldType.boolean), Jvm.Cond.code ({ cls := "com/example/stowage/stowage/core/Tar", name := "checksum", desc := "([B)J" } : Jvm.MethodName) prog_84_method_5_code (5 : Nat) (Option.some Jvm.ClassFile.FieldType.long)]
set_option maxRecDepth 65536 in
theorem codes_eq : words1.filter isCode = codes1 := rfl
theorem w_codes : ∀ c ∈ words1.filter isCode, c.before args0 about1 = true := by
  rw [codes_eq]
  intro c hc
  simp only [codes1, List.mem_cons, List.not_mem_nil, or_false] at hc
  rcases hc with rfl | rfl | rfl
  · exact w_c0
  · exact w_c1
  · exact w_c2
set_option maxRecDepth 65536 in
theorem w_t1 : words1.all (fun c => isCode c || c.before args0 about1) = true := by decide +kernel
theorem w_tables : (allAtoms (Jvm.Cond.code x code maxLocals ret :: tables_1)).before args0 about1 = true := by
  rw [allAtoms_all]
  show words1.all (fun c => c.before args0 about1) = true
  refine all_split ?_ w_codes
  rw [w_t1]
set_option maxRecDepth 65536 in
theorem w_case : (Jvm.Cond.and given_1 narrow_1).before args0 about1 = true := by decide +kernel
theorem w_applies : (headSpec (Jvm.Cond.code x code maxLocals ret :: tables_1) room_1).applies x e0.platform about1 = true :=
  (Spec.applies_iff w_frames).mpr ⟨w_running, w_runnable, w_alone, w_named, w_hears, w_ripe, w_room, w_tables⟩
theorem atStart : AtStart classFile x code maxLocals ret World_1 tables_1 room_1 Calls_1 rest_1 Pre_1 launch0 p0 e0 about1 theMethod args0 below0 :=
  ⟨lists_1, trivial, launch0.admits_env _ _ _, launch0.least_env, fairChoices_fair.cas, fairChoices_fair.clock, w_frames, w_args, w_heap, w_applies, trivial, trivial, w_case⟩
end start1
theorem witness_1 : WitnessClaimed_1 := ⟨start1.p0, start1.e0, start1.about1, start1.theMethod, start1.args0, start1.below0, start1.atStart⟩
end Jvm.Pilot.@@N@@
