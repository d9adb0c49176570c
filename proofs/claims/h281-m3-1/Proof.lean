import JvmDerived
import JvmDerived.Pilot.@@N@@Statement
import JvmDerived.Pilot.@@N@@Code
set_option linter.unusedVariables false
set_option linter.unusedSimpArgs false
namespace Jvm.Pilot.@@N@@
open Jvm Jvm.ClassFile Sem Op Lib Jvm.Free Jvm.Stand Jvm.LawKit Jvm.RoadKit Bundle Jvm.Pilot.@@N@@.Jvm.D
/-! the walk in continuation style: 'Fin': from F on the run comes to an end that answers Q -/
section Own
variable {p : Program} {l : Launch} {e : Env} {R : Room} {s : State} {m : MethodId} {args : Array Value} {below : List Frame} {meth : Method} {c : Code} {T : State} {locs : List Loc} {cells slots : Nat}
def OFin (p : Program) (e : Env) (below : List Frame) (Q : Outcome → State → Prop) (F : State) : Prop := ∃ s₂ o, Steps p.tables e below F s₂ ∧ s₂.status = .running ∧ Ended s₂ below o ∧ Q o s₂
def ORet (Q : Option Value → Heap → List Loc → Prop) (s : State) (C S : Nat) (o : Outcome) (U' : State) : Prop := ∃ v L, o = .returned v ∧ Q v U'.heap L ∧ FrameEnd s o U' L C S
theorem OFin.go {Q : Outcome → State → Prop} {F F' : State} (st : ∀ t, Steps p.tables e below F' t → Steps p.tables e below F t) (h : OFin p e below Q F') : OFin p e below Q F := by
  obtain ⟨s2, o, h1, r⟩ := h; exact ⟨s2, o, st _ h1, r⟩
theorem OFin.tr {Q : Outcome → State → Prop} {F F' : State} (st : Steps p.tables e below F F') (h : OFin p e below Q F') : OFin p e below Q F := by
  obtain ⟨s2, o, h1, r⟩ := h; exact ⟨s2, o, st.trans h1, r⟩
variable {Q : Option Value → Heap → List Loc → Prop} {C S : Nat}
theorem finZ (X : Stand p l e R s m args below meth c T locs cells slots) (hx : p.tables.exec = Jvm.exec) (hlocks : meth.locks = false) {t : FieldType} (hret : meth.sig.returnType = some t) (ht : t = .boolean ∨ t = .byte ∨ t = .char ∨ t = .short) {pc : Nat} (hd : decode c.code pc = .ok (.ireturn, 1)) {z z' : Int32} (hz : nar t z = z') (hc : cells ≤ C) (hs : slots ≤ S) {Ls : Array Slot} {rest : List Value} (hQ : Q (some (.int z')) T.heap locs) : OFin p e below (ORet Q s C S) (T.setTop (mkF m pc Ls (.int z :: rest))) := by
  subst hz
  obtain ⟨fs, hr, hrun, hended, hW, hsame⟩ := X.leave (v := some (.int (nar t z))) (fun h => by rw [hret] at h; cases h)
  exact ⟨_, _, retN X hx (t := t) hret ht hd hr, hrun, hended, _, _, rfl, hQ, ⟨_, rfl⟩, hW, hsame.mono hc hs⟩
theorem finI (X : Stand p l e R s m args below meth c T locs cells slots) (hx : p.tables.exec = Jvm.exec) (hlocks : meth.locks = false) (hret : meth.sig.returnType = some .int) {pc : Nat} (hd : decode c.code pc = .ok (.ireturn, 1)) {z : Int32} (hc : cells ≤ C) (hs : slots ≤ S) {Ls : Array Slot} {rest : List Value} (hQ : Q (some (.int z)) T.heap locs) : OFin p e below (ORet Q s C S) (T.setTop (mkF m pc Ls (.int z :: rest))) := by
  obtain ⟨fs, hr, hrun, hended, hW, hsame⟩ := X.leave (v := some (.int z)) (fun h => by rw [hret] at h; cases h)
  exact ⟨_, _, retOut X hx hret rfl (Or.inl ⟨rfl, Or.inl rfl, _, rfl⟩) hd hr, hrun, hended, _, _, rfl, hQ, ⟨_, rfl⟩, hW, hsame.mono hc hs⟩
theorem finJ (X : Stand p l e R s m args below meth c T locs cells slots) (hx : p.tables.exec = Jvm.exec) (hlocks : meth.locks = false) (hret : meth.sig.returnType = some .long) {pc : Nat} (hd : decode c.code pc = .ok (.lreturn, 1)) {z : Int64} (hc : cells ≤ C) (hs : slots ≤ S) {Ls : Array Slot} {rest : List Value} (hQ : Q (some (.long z)) T.heap locs) : OFin p e below (ORet Q s C S) (T.setTop (mkF m pc Ls (.long z :: rest))) := by
  obtain ⟨fs, hr, hrun, hended, hW, hsame⟩ := X.leave (v := some (.long z)) (fun h => by rw [hret] at h; cases h)
  exact ⟨_, _, retOut X hx hret rfl (Or.inr (Or.inl ⟨rfl, rfl, _, rfl⟩)) hd hr, hrun, hended, _, _, rfl, hQ, ⟨_, rfl⟩, hW, hsame.mono hc hs⟩
theorem finA (X : Stand p l e R s m args below meth c T locs cells slots) (hx : p.tables.exec = Jvm.exec) (hlocks : meth.locks = false) {w : Value} (hw : w.isRef = true) {t : FieldType} (hret : meth.sig.returnType = some t) (ht : t.isReference = true) {pc : Nat} (hd : decode c.code pc = .ok (.areturn, 1)) (hc : cells ≤ C) (hs : slots ≤ S) {Ls : Array Slot} {rest : List Value} (hQ : Q (some w) T.heap locs) : OFin p e below (ORet Q s C S) (T.setTop (mkF m pc Ls (w :: rest))) := by
  obtain ⟨fs, hr, hrun, hended, hW, hsame⟩ := X.leave (v := some w) (fun h => by rw [hret] at h; cases h)
  refine ⟨_, _, retOut X hx hret ?_ (Or.inr (Or.inr (Or.inr (Or.inr ⟨rfl, ht, hw⟩)))) hd hr, hrun, hended, _, _, rfl, hQ, ⟨_, rfl⟩, hW, hsame.mono hc hs⟩
  cases w <;> first | (simp [Value.isRef] at hw; done) | (cases t <;> first | rfl | (simp [FieldType.isReference] at ht; done))
theorem finV (X : Stand p l e R s m args below meth c T locs cells slots) (hx : p.tables.exec = Jvm.exec) (hlocks : meth.locks = false) (hret : meth.sig.returnType = none) {pc : Nat} (hd : decode c.code pc = .ok (.return_, 1)) (hc : cells ≤ C) (hs : slots ≤ S) {Ls : Array Slot} (hQ : Q none T.heap locs) : OFin p e below (ORet Q s C S) (T.setTop (mkF m pc Ls [])) := by
  obtain ⟨fs, hr, hrun, hended, hW, hsame⟩ := X.leave (v := none) (fun _ => rfl)
  exact ⟨_, _, X.returnOut hx hret hd hr, hrun, hended, _, _, rfl, hQ, ⟨_, rfl⟩, hW, hsame.mono hc hs⟩
end Own
/-- a boolean as the int that bears it -/
def bi (P : Prop) [Decidable P] : Int32 := if P then 1 else 0
theorem bi_t {P : Prop} [Decidable P] (h : P) : bi P = 1 := if_pos h
theorem bi_f {P : Prop} [Decidable P] (h : ¬ P) : bi P = 0 := if_neg h
theorem nar_bi (P : Prop) [Decidable P] : nar .boolean (bi P) = bi P := by unfold bi; split <;> rfl
theorem bi_iff {P Q : Prop} [Decidable P] [Decidable Q] : bi P = bi Q ↔ (P ↔ Q) := by
  unfold bi; by_cases h : P <;> by_cases k : Q <;> simp [h, k]
theorem bi0 {P : Prop} [Decidable P] : (bi P = 0) ↔ ¬ P := by unfold bi; by_cases h : P <;> simp [h]
theorem bi_ne_t {P : Prop} [Decidable P] (h : P) : ifCond.holds .ne (bi P) = true := by rw [bi_t h]; rfl
theorem bi_ne_f {P : Prop} [Decidable P] (h : ¬ P) : ifCond.holds .ne (bi P) = false := by rw [bi_f h]; rfl
theorem bi_eq_t {P : Prop} [Decidable P] (h : ¬ P) : ifCond.holds .eq (bi P) = true := by rw [bi_f h]; rfl
theorem bi_eq_f {P : Prop} [Decidable P] (h : P) : ifCond.holds .eq (bi P) = false := by rw [bi_t h]; rfl
theorem lc_lt_t {x y : Int64} (h : x < y) : ifCond.holds .lt (lcmpW x y) = true := (if0 _ _).trans (tlt ((lw_lt x y).mpr h)).1
theorem lc_lt_f {x y : Int64} (h : ¬ x < y) : ifCond.holds .lt (lcmpW x y) = false := (if0 _ _).trans (flt fun q => h ((lw_lt x y).mp q)).1
theorem lc_ge_t {x y : Int64} (h : ¬ x < y) : ifCond.holds .ge (lcmpW x y) = true := (if0 _ _).trans (flt fun q => h ((lw_lt x y).mp q)).2.1
theorem lc_ge_f {x y : Int64} (h : x < y) : ifCond.holds .ge (lcmpW x y) = false := (if0 _ _).trans (tlt ((lw_lt x y).mpr h)).2.1
theorem lc_gt_t {x y : Int64} (h : y < x) : ifCond.holds .gt (lcmpW x y) = true := (if0 _ _).trans (tlt ((lw_gt x y).mpr h)).2.2.1
theorem lc_gt_f {x y : Int64} (h : ¬ y < x) : ifCond.holds .gt (lcmpW x y) = false := (if0 _ _).trans (flt fun q => h ((lw_gt x y).mp q)).2.2.1
theorem lc_le_t {x y : Int64} (h : ¬ y < x) : ifCond.holds .le (lcmpW x y) = true := (if0 _ _).trans (flt fun q => h ((lw_gt x y).mp q)).2.2.2
theorem lc_le_f {x y : Int64} (h : y < x) : ifCond.holds .le (lcmpW x y) = false := (if0 _ _).trans (tlt ((lw_gt x y).mpr h)).2.2.2
theorem lc_eq_t {x y : Int64} (h : x = y) : ifCond.holds .eq (lcmpW x y) = true := (if0 _ _).trans (teq ((lw_eq x y).mpr h)).1
theorem lc_eq_f {x y : Int64} (h : ¬ x = y) : ifCond.holds .eq (lcmpW x y) = false := (if0 _ _).trans (feq fun q => h ((lw_eq x y).mp q)).1
theorem lc_ne_t {x y : Int64} (h : ¬ x = y) : ifCond.holds .ne (lcmpW x y) = true := (if0 _ _).trans (feq fun q => h ((lw_eq x y).mp q)).2
theorem lc_ne_f {x y : Int64} (h : x = y) : ifCond.holds .ne (lcmpW x y) = false := (if0 _ _).trans (teq ((lw_eq x y).mpr h)).2
/-! arrays by their places -/
def upd {α : Type} (f : Nat → α) (i : Nat) (v : α) : Nat → α := fun j => if j = i then v else f j
theorem upd_hit {α : Type} (f : Nat → α) (i : Nat) (v : α) : upd f i v i = v := if_pos rfl
theorem upd_miss {α : Type} {f : Nat → α} {i j : Nat} {v : α} (h : j ≠ i) : upd f i v j = f j := if_neg h
def Ara (Z : State) (h : Heap) (a : Addr) (ty : FieldType) (n : Nat) (f : Nat → Value) : Prop := ∃ c : Cell, Arr Z h a c ty ∧ c.slots.size = n ∧ n < 2 ^ 31 ∧ ∀ i, i < n → c.slots[i]? = some (f i)
section Ara
variable {Z : State} {h h' : Heap} {a b : Addr} {ty : FieldType} {n : Nat} {f f' : Nat → Value} {sl : Nat} {v : Value} {ws : List Addr}
theorem Ara.lt (F : Ara Z h a ty n f) : a < h.size := by obtain ⟨c, A, -⟩ := F; exact A.lt
theorem Ara.ext (F : Ara Z h a ty n f) (E : Ext h h') : Ara Z h' a ty n f := by obtain ⟨c, A, r⟩ := F; exact ⟨c, A.ext E, r⟩
theorem Ara.other (F : Ara Z h b ty n f) (W : Wr h h' a sl v) (q : b ≠ a) : Ara Z h' b ty n f := by obtain ⟨c, A, r⟩ := F; exact ⟨c, A.other W q, r⟩
theorem Ara.keep (F : Ara Z h a ty n f) (K : Keep h h' ws) (q : a ∉ ws) : Ara Z h' a ty n f := by obtain ⟨c, A, r⟩ := F; exact ⟨c, ⟨K.2.1 a c A.1 q, A.2⟩, r⟩
theorem Ara.set (F : Ara Z h a ty n f) (W : Wr h h' a sl v) : Ara Z h' a ty n (upd f sl v) := by
  obtain ⟨c, A, r1, r2, r3⟩ := F
  refine ⟨_, A.same W, by rw [sz_set]; exact r1, r2, fun i hi => ?_⟩
  by_cases q : i = sl
  · subst q; rw [upd_hit]; simp [Cell.setSlot, r1, hi]
  · rw [upd_miss q]; simp only [Cell.setSlot]; rw [Array.getElem?_setIfInBounds_ne (fun z => q z.symm)]; exact r3 i hi
theorem Ara.new {k : ClassId} {z : Int32} (A : Arr Z h a (newA k ty z) ty) (hn : z.toNatClampNeg = n) : Ara Z h a ty n (fun _ => defaultValue ty) := by
  refine ⟨_, A, by rw [sz_new]; exact hn, ?_, fun i hi => ?_⟩
  · rw [← hn]; have := z.toInt_lt; unfold Int32.toNatClampNeg; omega
  · rw [← hn] at hi; simp [newA, hi]
theorem Ara.congr (F : Ara Z h a ty n f) (q : ∀ i, i < n → f i = f' i) : Ara Z h a ty n f' := by obtain ⟨c, A, r1, r2, r3⟩ := F; exact ⟨c, A, r1, r2, fun i hi => by rw [← q i hi]; exact r3 i hi⟩
variable {p : Program} {l : Launch} {e : Env} {R : Room} {s : State} {m : MethodId} {args : Array Value} {below : List Frame} {meth : Method} {c : Code} {T : State} {locs : List Loc} {cells slots : Nat} {j : Int32} {i : Nat} {rest : List Value} {g : JFrame} {t : State} {x : Value}
theorem hin_of {cl : Cell} (S : cl.slots.size = n) (hj0 : ¬ j < 0) (hj : j.toNatClampNeg = i) (hi : i < n) : ¬ (j < 0 ∨ cl.slots.size ≤ j.toNatClampNeg) := by rw [S, hj]; exact fun q => q.elim hj0 (Nat.not_le.mpr hi)
theorem rdB (X : Stand p l e R s m args below meth c T locs cells slots) (hx : p.tables.exec = Jvm.exec) (hZ : Z.Warmed39 s.vm) (eT : T.heap = h) (F : Ara Z h a .byte n f) (hj0 : ¬ j < 0) (hj : j.toNatClampNeg = i) (hi : i < n) (hv : f i = x) (hg : g.method = m) (hs : g.stack = .int j :: .ref a :: rest) (hd : decode c.code g.pc = .ok (.baload, 1))
    (k : Steps p.tables e below (T.setTop { g with pc := g.pc + 1, stack := x :: rest }) t) : Steps p.tables e below (T.setTop g) t := by
  obtain ⟨cl, A, r1, r2, r3⟩ := F
  exact X.baloadBytes hx (by rw [eT]; exact A.1) (State.isArrayOf_alike hZ.alike A.2.1) A.2.2 (hin_of r1 hj0 hj hi) (by rw [hj, r3 i hi, hv]) hg hs hd _ k
theorem rdI (X : Stand p l e R s m args below meth c T locs cells slots) (hx : p.tables.exec = Jvm.exec) (hZ : Z.Warmed39 s.vm) (eT : T.heap = h) (F : Ara Z h a .int n f) (hj0 : ¬ j < 0) (hj : j.toNatClampNeg = i) (hi : i < n) (hv : f i = x) (hg : g.method = m) (hs : g.stack = .int j :: .ref a :: rest) (hd : decode c.code g.pc = .ok (.iaload, 1))
    (k : Steps p.tables e below (T.setTop { g with pc := g.pc + 1, stack := x :: rest }) t) : Steps p.tables e below (T.setTop g) t := by
  obtain ⟨cl, A, r1, r2, r3⟩ := F
  exact X.iaload hx (by rw [eT]; exact A.1) (State.isArrayOf_alike hZ.alike A.2.1) A.2.2 (hin_of r1 hj0 hj hi) (by rw [hj, r3 i hi, hv]) hg hs hd _ k
theorem rdJ (X : Stand p l e R s m args below meth c T locs cells slots) (hx : p.tables.exec = Jvm.exec) (hZ : Z.Warmed39 s.vm) (eT : T.heap = h) (F : Ara Z h a .long n f) (hj0 : ¬ j < 0) (hj : j.toNatClampNeg = i) (hi : i < n) (hv : f i = x) (hg : g.method = m) (hs : g.stack = .int j :: .ref a :: rest) (hd : decode c.code g.pc = .ok (.laload, 1))
    (k : Steps p.tables e below (T.setTop { g with pc := g.pc + 1, stack := x :: rest }) t) : Steps p.tables e below (T.setTop g) t := by
  obtain ⟨cl, A, r1, r2, r3⟩ := F
  exact X.laload hx (by rw [eT]; exact A.1) (State.isArrayOf_alike hZ.alike A.2.1) A.2.2 (hin_of r1 hj0 hj hi) (by rw [hj, r3 i hi, hv]) hg hs hd _ k
theorem rdR (X : Stand p l e R s m args below meth c T locs cells slots) (hx : p.tables.exec = Jvm.exec) (hZ : Z.Warmed39 s.vm) (eT : T.heap = h) (F : Ara Z h a ty n f) (hty : ty.isReference = true) (hj0 : ¬ j < 0) (hj : j.toNatClampNeg = i) (hi : i < n) (hv : f i = x) (hg : g.method = m) (hs : g.stack = .int j :: .ref a :: rest) (hd : decode c.code g.pc = .ok (.aaload, 1))
    (k : Steps p.tables e below (T.setTop { g with pc := g.pc + 1, stack := x :: rest }) t) : Steps p.tables e below (T.setTop g) t := by
  obtain ⟨cl, A, r1, r2, r3⟩ := F
  exact X.aaload hx (by rw [eT]; exact A.1) (State.isArrayOf_alike hZ.alike A.2.1) hty A.2.2 (hin_of r1 hj0 hj hi) (by rw [hj, r3 i hi, hv]) hg hs hd _ k
theorem alen (X : Stand p l e R s m args below meth c T locs cells slots) (hx : p.tables.exec = Jvm.exec) (hZ : Z.Warmed39 s.vm) (eT : T.heap = h) (F : Ara Z h a ty n f) {z : Int32} (hz : n.toInt32 = z) (hg : g.method = m) (hs : g.stack = .ref a :: rest) (hd : decode c.code g.pc = .ok (.arraylength, 1))
    (k : Steps p.tables e below (T.setTop { g with pc := g.pc + 1, stack := .int z :: rest }) t) : Steps p.tables e below (T.setTop g) t := by
  obtain ⟨cl, A, r1, r2, r3⟩ := F
  refine X.arraylength hx (by rw [eT]; exact A.1) (State.isArrayOf_alike hZ.alike A.2.1) hg hs hd _ ?_
  rw [r1, hz]; exact k
theorem wrB (X : Stand p l e R s m args below meth c T locs cells slots) (hx : p.tables.exec = Jvm.exec) (hZ : Z.Warmed39 s.vm) (eT : T.heap = h) (F : Ara Z h a .byte n f) {y : Int32} (hj0 : ¬ j < 0) (hj : j.toNatClampNeg = i) (hi : i < n) {y' : Int32} (hy : nar .byte y = y') (hg : g.method = m) (hs : g.stack = .int y :: .int j :: .ref a :: rest) (hd : decode c.code g.pc = .ok (.bastore, 1)) :
    ∃ T' h', Stand p l e R s m args below meth c T' (locs ++ [⟨a, i⟩]) cells slots ∧ T'.heap = h' ∧ Wr h h' a i (.int y') ∧ ∀ target, Steps p.tables e below (T'.setTop { g with pc := g.pc + 1, stack := rest }) target → Steps p.tables e below (T.setTop g) target := by
  subst hj hy
  obtain ⟨cl, A, r1, r2, r3⟩ := F
  exact stB X hx hZ eT A (hin_of r1 hj0 rfl hi) hg hs hd
theorem wrI (X : Stand p l e R s m args below meth c T locs cells slots) (hx : p.tables.exec = Jvm.exec) (hZ : Z.Warmed39 s.vm) (eT : T.heap = h) (F : Ara Z h a .int n f) {y : Int32} (hj0 : ¬ j < 0) (hj : j.toNatClampNeg = i) (hi : i < n) (hg : g.method = m) (hs : g.stack = .int y :: .int j :: .ref a :: rest) (hd : decode c.code g.pc = .ok (.iastore, 1)) :
    ∃ T' h', Stand p l e R s m args below meth c T' (locs ++ [⟨a, i⟩]) cells slots ∧ T'.heap = h' ∧ Wr h h' a i (.int y) ∧ ∀ target, Steps p.tables e below (T'.setTop { g with pc := g.pc + 1, stack := rest }) target → Steps p.tables e below (T.setTop g) target := by
  subst hj
  obtain ⟨cl, A, r1, r2, r3⟩ := F
  exact stI X hx hZ eT A (hin_of r1 hj0 rfl hi) hg hs hd
theorem wrJ (X : Stand p l e R s m args below meth c T locs cells slots) (hx : p.tables.exec = Jvm.exec) (hZ : Z.Warmed39 s.vm) (eT : T.heap = h) (F : Ara Z h a .long n f) {y : Int64} (hj0 : ¬ j < 0) (hj : j.toNatClampNeg = i) (hi : i < n) (hg : g.method = m) (hs : g.stack = .long y :: .int j :: .ref a :: rest) (hd : decode c.code g.pc = .ok (.lastore, 1)) :
    ∃ T' h', Stand p l e R s m args below meth c T' (locs ++ [⟨a, i⟩]) cells slots ∧ T'.heap = h' ∧ Wr h h' a i (.long y) ∧ ∀ target, Steps p.tables e below (T'.setTop { g with pc := g.pc + 1, stack := rest }) target → Steps p.tables e below (T.setTop g) target := by
  subst hj
  obtain ⟨cl, A, r1, r2, r3⟩ := F
  exact stJ X hx hZ eT A (hin_of r1 hj0 rfl hi) hg hs hd
end Ara
theorem wr_le {h h' : Heap} {a : Addr} {sl : Nat} {v : Value} (W : Wr h h' a sl v) : h.size ≤ h'.size := Nat.le_of_eq W.size.symm
theorem up_lt {k a b : Nat} (h : a < k) (g : b = k) : a ≠ b := by omega
theorem nar_b (y : Int32) : nar .byte y.toInt8.toInt32 = y.toInt8.toInt32 := by show y.toInt8.toInt32.toInt8.toInt32 = _; rw [Int8.toInt8_toInt32]
theorem Sta_keep {Z : State} {h h' : Heap} {C n d : String} {v : Value} {ws : List Addr} {k : Nat} (F : Sta Z h C n d v) (K : Keep h h' ws) (q : ∀ x ∈ ws, Z.heap.size ≤ x) (hst : ∀ cf kk i f st, Z.fieldFound? C n d = some (cf, kk, i, f) → kk.statics = some st → st < Z.heap.size) : Sta Z h' C n d v := by
  obtain ⟨cf, i, kk, f, st, cell, h1, h2, h3, h4, h5, r⟩ := F
  exact ⟨cf, i, kk, f, st, cell, h1, h2, h3, h4, K.2.1 _ _ h5 (fun z => absurd (hst _ _ _ _ _ h1 h4) (Nat.not_lt.mpr (q _ z))), r⟩
theorem eqv_r {Z : State} {args : Array Value} {X F : Term} {idx : List Nat} {y : Addr} (hF : F.eval args Z none idx Z = some (.ref y)) (h : (Cond.eq X F).value args Z none Z idx = some true) : X.eval args Z none idx Z = some (.ref y) := by
  cases hx : X.eval args Z none idx Z with
  | none => simp [Cond.value, hF, hx] at h
  | some x => cases x <;> simp [Cond.value, hF, hx] at h ⊢ <;> exact h
/-! calls by a contract, in one piece -/
section Calls
variable {p : Program} {l : Launch} {e : Env} {R : Room} {s : State} {m : MethodId} {args : Array Value} {below : List Frame} {meth : Method} {c : Code} {T : State} {locs : List Loc} {cells slots : Nat} {Z : State} {a0 : Array Value} {h : Heap}
abbrev Meets1 (l : Launch) (y : MethodName) (bytes : ByteArray) (maxL : Nat) (ret : Option FieldType) (rm : Room) (Z : State) (as' : Array Value) (h : Heap) (Q : Option Value → Heap → List Loc → Prop) : Prop :=
  MetFree l y (head1 [Cond.code y bytes maxL ret] rm) (fun a U => a = as' ∧ Z.Warmed39 U.vm ∧ U.heap = h) (fun _ _ _ _ _ => True) (fun _ U o U' => ∃ v L, o = .returned v ∧ Q v U'.heap L ∧ FrameEnd U o U' L rm.cells rm.slots)
theorem callQ (X : Stand p l e R s m args below meth c T locs cells slots) (hx : p.tables.exec = Jvm.exec) (hZ : Z.Warmed39 s.vm) {own : String} {index : Nat} {y : MethodName} {bytes : ByteArray} {maxL : Nat} {ret : Option FieldType} (hown : s.vm.findClass own = some m.cls)
    (w1 : (Cond.methodLink own index y).before a0 Z = true) (w2 : (Cond.static y).before a0 Z = true) (w3 : (Cond.initialized y.cls).before a0 Z = true) (w4 : (Cond.code y bytes maxL ret).before a0 Z = true) (hy : y.cls ≠ "java/lang/invoke/MethodHandle" ∧ y.cls ≠ "java/lang/invoke/VarHandle")
    {rm : Room} {argsL rest : List Value} {Q : Option Value → Heap → List Loc → Prop} (hM : Meets1 l y bytes maxL ret rm Z argsL.toArray h Q) {W : Nat} (hf : rm.frames + 1 ≤ R.frames) (hl : W + (maxL + 11) + rm.locals ≤ R.locals) (eT : T.heap = h)
    {g : JFrame} (hg : g.method = m) (hsize : g.locals.size = c.maxLocals) (hlen : ∀ sig, parseMethodDescriptor y.desc = some sig → argsL.length = sig.parameters.length) (hstack : g.stack = argsL.reverse ++ rest) (hW : 2 * g.monitorRoom + (rest.map fun v => v.category).sum ≤ W) (hd : decode c.code g.pc = .ok (.invokestatic index, 3)) (hc : cells + rm.cells ≤ R.cells) (hs : slots + rm.slots ≤ R.slots) :
    ∃ v T' L, Stand p l e R s m args below meth c T' (locs ++ L) (cells + rm.cells) (slots + rm.slots) ∧ Q v T'.heap L ∧ ∀ target, Steps p.tables e below (T'.setTop { g with pc := g.pc + 3, stack := v.toList ++ rest }) target → Steps p.tables e below (T.setTop g) target := by
  obtain ⟨v, _, ⟨T', L', k', n'⟩, -, X', ⟨L, hQ, hl', hk', hn'⟩, st⟩ := Jvm.LawKit.callS X hx hown (mvT hZ w1) (mvT hZ w2) (mvT hZ w3) (mvT hZ w4) hy (backOf (W := W) hM hZ w4 w3 hf hl) hg hsize hlen hstack hW hd (fun _ _ => ⟨rfl, eT, hc, hs⟩)
  dsimp only [Pt.U, Pt.locs, Pt.cells, Pt.slots] at X' hl' hk' hn' st hQ
  subst hl' hk' hn'
  exact ⟨v, T', L, X', hQ, st⟩
theorem specQ (X : Stand p l e R s m args below meth c T locs cells slots) (hx : p.tables.exec = Jvm.exec) (hZ : Z.Warmed39 s.vm) {own : String} {index : Nat} {y : MethodName} {bytes : ByteArray} {maxL : Nat} (hy1 : y.name = "<init>") (hown : s.vm.findClass own = some m.cls)
    (w1 : (Cond.methodLink own index y).before a0 Z = true) (w2 : (Cond.instanceMethod y).before a0 Z = true) (w3 : (Cond.initialized y.cls).before a0 Z = true) (w4 : (Cond.code y bytes maxL none).before a0 Z = true) (hy : y.cls ≠ "java/lang/invoke/MethodHandle" ∧ y.cls ≠ "java/lang/invoke/VarHandle")
    {rm : Room} {a : Addr} {argsL rest : List Value} {Q : Option Value → Heap → List Loc → Prop} (hM : Meets1 l y bytes maxL none rm Z (.ref a :: argsL).toArray h Q) {W : Nat} (hf : rm.frames + 1 ≤ R.frames) (hl : W + (maxL + 11) + rm.locals ≤ R.locals) (eT : T.heap = h)
    {g : JFrame} (hg : g.method = m) (hsize : g.locals.size = c.maxLocals) (hlen : ∀ sig, parseMethodDescriptor y.desc = some sig → argsL.length = sig.parameters.length) (hstack : g.stack = argsL.reverse ++ .ref a :: rest) (hW : 2 * g.monitorRoom + (rest.map fun v => v.category).sum ≤ W) (hd : decode c.code g.pc = .ok (.invokespecial index, 3)) (hc : cells + rm.cells ≤ R.cells) (hs : slots + rm.slots ≤ R.slots) :
    ∃ v T' L, Stand p l e R s m args below meth c T' (locs ++ L) (cells + rm.cells) (slots + rm.slots) ∧ Q v T'.heap L ∧ ∀ target, Steps p.tables e below (T'.setTop { g with pc := g.pc + 3, stack := v.toList ++ rest }) target → Steps p.tables e below (T.setTop g) target := by
  obtain ⟨v, _, ⟨T', L', k', n'⟩, -, X', ⟨L, hQ, hl', hk', hn'⟩, st⟩ := X.specialBack hx hy1 hown (mvT hZ w1) (mvT hZ w2) (mvT hZ w4) hy (backOf (W := W) hM hZ w4 w3 hf hl) hg hsize (Steps.refl _) hlen hstack hW hd (fun _ _ => ⟨rfl, eT, hc, hs⟩)
  dsimp only [Pt.U, Pt.locs, Pt.cells, Pt.slots] at X' hl' hk' hn' st hQ
  subst hl' hk' hn'
  exact ⟨v, T', L, X', hQ, fun t k => st.trans k⟩
theorem virtQ (X : Stand p l e R s m args below meth c T locs cells slots) (hx : p.tables.exec = Jvm.exec) (hZ : Z.Warmed39 s.vm) {own : String} {index : Nat} {y : MethodName} {bytes : ByteArray} {maxL : Nat} {ret : Option FieldType} (hown : s.vm.findClass own = some m.cls)
    (w1 : (Cond.methodLink own index y).before a0 Z = true) (w2 : (Cond.instanceMethod y).before a0 Z = true) (w3 : (Cond.initialized y.cls).before a0 Z = true) (w4 : (Cond.code y bytes maxL ret).before a0 Z = true) (w5 : (Cond.declares y).before a0 Z = true) (w6 : (Cond.selects y.cls y y).before a0 Z = true) (hy : y.cls ≠ "java/lang/invoke/MethodHandle" ∧ y.cls ≠ "java/lang/invoke/VarHandle")
    {rm : Room} {a : Addr} (E : Exa Z h a y.cls) {argsL rest : List Value} {Q : Option Value → Heap → List Loc → Prop} (hM : Meets1 l y bytes maxL ret rm Z (.ref a :: argsL).toArray h Q) {W : Nat} (hf : rm.frames + 1 ≤ R.frames) (hl : W + (maxL + 11) + rm.locals ≤ R.locals) (eT : T.heap = h)
    {g : JFrame} (hg : g.method = m) (hsize : g.locals.size = c.maxLocals) (hlen : ∀ sig, parseMethodDescriptor y.desc = some sig → argsL.length = sig.parameters.length) (hstack : g.stack = argsL.reverse ++ .ref a :: rest) (hW : 2 * g.monitorRoom + (rest.map fun v => v.category).sum ≤ W) (hd : decode c.code g.pc = .ok (.invokevirtual index, 3)) (hc : cells + rm.cells ≤ R.cells) (hs : slots + rm.slots ≤ R.slots) :
    ∃ v T' L, Stand p l e R s m args below meth c T' (locs ++ L) (cells + rm.cells) (slots + rm.slots) ∧ Q v T'.heap L ∧ ∀ target, Steps p.tables e below (T'.setTop { g with pc := g.pc + 3, stack := v.toList ++ rest }) target → Steps p.tables e below (T.setTop g) target := by
  obtain ⟨cq, kq, qa, qb, qc⟩ := isOf hZ eT E
  obtain ⟨v, _, ⟨T', L', k', n'⟩, -, X', ⟨L, hQ, hl', hk', hn'⟩, st⟩ := X.virtualBack hx (y := y) (z := y) hown (mvT hZ w1) (mvT hZ w5) (notFace_of_selects (args := #[]) (mvT hZ w6)) (mvT hZ w6) (mvT hZ w2) hy (backOf (W := W) hM hZ w4 w3 hf hl) qa qc hg hsize (Steps.refl _) hlen hstack hW hd (fun _ _ => ⟨rfl, eT, hc, hs⟩)
  dsimp only [Pt.U, Pt.locs, Pt.cells, Pt.slots] at X' hl' hk' hn' st hQ
  subst hl' hk' hn'
  exact ⟨v, T', L, X', hQ, fun t k => st.trans k⟩
theorem privQ (X : Stand p l e R s m args below meth c T locs cells slots) (hx : p.tables.exec = Jvm.exec) (hZ : Z.Warmed39 s.vm) {own : String} {index : Nat} {y : MethodName} {bytes : ByteArray} {maxL : Nat} {ret : Option FieldType} (hown : s.vm.findClass own = some m.cls)
    (w1 : (Cond.methodLink own index y).before a0 Z = true) (w2 : (Cond.instanceMethod y).before a0 Z = true) (w3 : (Cond.initialized y.cls).before a0 Z = true) (w4 : (Cond.code y bytes maxL ret).before a0 Z = true) (w5 : (Cond.privateMethod y).before a0 Z = true) (w6 : (Cond.selects y.cls y y).before a0 Z = true) (hy : y.cls ≠ "java/lang/invoke/MethodHandle" ∧ y.cls ≠ "java/lang/invoke/VarHandle")
    {rm : Room} {a : Addr} {C : String} (E : Exa Z h a C) {argsL rest : List Value} {Q : Option Value → Heap → List Loc → Prop} (hM : Meets1 l y bytes maxL ret rm Z (.ref a :: argsL).toArray h Q) {W : Nat} (hf : rm.frames + 1 ≤ R.frames) (hl : W + (maxL + 11) + rm.locals ≤ R.locals) (eT : T.heap = h)
    {g : JFrame} (hg : g.method = m) (hsize : g.locals.size = c.maxLocals) (hlen : ∀ sig, parseMethodDescriptor y.desc = some sig → argsL.length = sig.parameters.length) (hstack : g.stack = argsL.reverse ++ .ref a :: rest) (hW : 2 * g.monitorRoom + (rest.map fun v => v.category).sum ≤ W) (hd : decode c.code g.pc = .ok (.invokevirtual index, 3)) (hc : cells + rm.cells ≤ R.cells) (hs : slots + rm.slots ≤ R.slots) :
    ∃ v T' L, Stand p l e R s m args below meth c T' (locs ++ L) (cells + rm.cells) (slots + rm.slots) ∧ Q v T'.heap L ∧ ∀ target, Steps p.tables e below (T'.setTop { g with pc := g.pc + 3, stack := v.toList ++ rest }) target → Steps p.tables e below (T.setTop g) target := by
  obtain ⟨cq, q1, q2⟩ := E.cell
  obtain ⟨v, _, ⟨T', L', k', n'⟩, -, X', ⟨L, hQ, hl', hk', hn'⟩, st⟩ := X.privateBack hx (y := y) hown (mvT hZ w1) (mvT hZ w2) (mvT hZ w6) (Cond.privateMethod_at (mvP hZ w5 (args := #[]))) (mvT hZ w4) hy (backOf (W := W) hM hZ w4 w3 hf hl) hg hsize (Steps.refl _) (a := a) (by rw [eT]; exact q1) q2 hlen hstack hW hd (fun _ _ => ⟨rfl, eT, hc, hs⟩)
  dsimp only [Pt.U, Pt.locs, Pt.cells, Pt.slots] at X' hl' hk' hn' st hQ
  subst hl' hk' hn'
  exact ⟨v, T', L, X', hQ, fun t k => st.trans k⟩
end Calls
def pk (aC aS aT aA : Addr) (k : Int32) : Value := if (k = (0 : Int32)) then .ref aC else if (k = (1 : Int32)) then .ref aS else if (k = (2 : Int32)) then .ref aT else if (k = (3 : Int32)) then .ref aA else .null
theorem ef_rm1 (m : MethodId) (u0 : Int32) : entryFrame m #[(.int u0)] 1 = mkF m 0 #[.val (.int u0)] [] := by first | (simp [entryFrame, mkF, argsToLocals, Value.category]; done) | rfl
theorem pn_0 : plainName "com/example/stowage/stowage/ip/ProfileFollowsPinLaw" = true := by first | (simp [plainName, overriddenIn]; done) | decide +kernel
def Q_rm1 (Z : State) (u0 : Int32) (aC aS aT aA : Addr) (h0 : Heap) (n0 : Nat) (v : Option Value) (h : Heap) (L : List Loc) : Prop := v = some (pk aC aS aT aA u0) ∧ Fr n0 L ∧ h = h0
theorem d1_0 : decode method_2_code 0 = .ok (.iload_n 0, 1) := by decide +kernel
theorem d1_1 : decode method_2_code 1 = .ok (.ifCond .ne 7, 3) := by decide +kernel
theorem d1_4 : decode method_2_code 4 = .ok (.getstatic 7, 3) := by decide +kernel
theorem d1_7 : decode method_2_code 7 = .ok (.areturn, 1) := by decide +kernel
theorem d1_8 : decode method_2_code 8 = .ok (.iload_n 0, 1) := by decide +kernel
theorem d1_9 : decode method_2_code 9 = .ok (.iconst 1, 1) := by decide +kernel
theorem d1_10 : decode method_2_code 10 = .ok (.if_icmp .ne 7, 3) := by decide +kernel
theorem d1_13 : decode method_2_code 13 = .ok (.getstatic 13, 3) := by decide +kernel
theorem d1_16 : decode method_2_code 16 = .ok (.areturn, 1) := by decide +kernel
theorem d1_17 : decode method_2_code 17 = .ok (.iload_n 0, 1) := by decide +kernel
theorem d1_18 : decode method_2_code 18 = .ok (.iconst 2, 1) := by decide +kernel
theorem d1_19 : decode method_2_code 19 = .ok (.if_icmp .ne 7, 3) := by decide +kernel
theorem d1_22 : decode method_2_code 22 = .ok (.getstatic 16, 3) := by decide +kernel
theorem d1_25 : decode method_2_code 25 = .ok (.areturn, 1) := by decide +kernel
theorem d1_26 : decode method_2_code 26 = .ok (.iload_n 0, 1) := by decide +kernel
theorem d1_27 : decode method_2_code 27 = .ok (.iconst 3, 1) := by decide +kernel
theorem d1_28 : decode method_2_code 28 = .ok (.if_icmp .ne 7, 3) := by decide +kernel
theorem d1_31 : decode method_2_code 31 = .ok (.getstatic 19, 3) := by decide +kernel
theorem d1_34 : decode method_2_code 34 = .ok (.areturn, 1) := by decide +kernel
theorem d1_35 : decode method_2_code 35 = .ok (.aconst_null, 1) := by decide +kernel
theorem d1_36 : decode method_2_code 36 = .ok (.areturn, 1) := by decide +kernel
set_option maxRecDepth 65536 in
set_option maxHeartbeats 40000000 in
theorem rm1 (l : Launch) (Z : State) (a0 : Array Value) (hw : ∀ d ∈ tables_1, d.before a0 Z = true) (ws : List Jvm.Cond) (u0 : Int32) (aC aS aT aA : Addr) (h0 : Heap) (n0 : Nat) (Z0 : n0 ≤ h0.size) (SaC : Sta Z h0 "com/example/stowage/stowage/ip/Profile" "CSIP" "Lcom/example/stowage/stowage/ip/Profile;" (.ref aC)) (SaS : Sta Z h0 "com/example/stowage/stowage/ip/Profile" "SIP" "Lcom/example/stowage/stowage/ip/Profile;" (.ref aS)) (SaT : Sta Z h0 "com/example/stowage/stowage/ip/Profile" "CITS_SIARD" "Lcom/example/stowage/stowage/ip/Profile;" (.ref aT)) (SaA : Sta Z h0 "com/example/stowage/stowage/ip/Profile" "AIP" "Lcom/example/stowage/stowage/ip/Profile;" (.ref aA)) :
    MetFree l (⟨"com/example/stowage/stowage/ip/ProfileFollowsPinLaw", "pick", "(I)Lcom/example/stowage/stowage/ip/Profile;"⟩ : MethodName) (head1 (Jvm.Cond.code (⟨"com/example/stowage/stowage/ip/ProfileFollowsPinLaw", "pick", "(I)Lcom/example/stowage/stowage/ip/Profile;"⟩ : MethodName) method_2_code 1 (some (.object "com/example/stowage/stowage/ip/Profile")) :: ws) ({ frames := 0, cells := 0, slots := 0, locals := 0 } : Room)) (fun a U => a = #[(.int u0)] ∧ Z.Warmed39 U.vm ∧ U.heap = h0) (fun _ _ _ _ _ => True) (fun _ U o U' => ∃ v L, o = .returned v ∧ (Q_rm1 Z u0 aC aS aT aA h0 n0) v U'.heap L ∧ FrameEnd U o U' L ({ frames := 0, cells := 0, slots := 0, locals := 0 } : Room).cells ({ frames := 0, cells := 0, slots := 0, locals := 0 } : Room).slots) := by
  refine MetFree.of_bodySF (plainFor_of_name pn_0) hisR ?_
  intro p e s m args below meth c s₁ Bd hml0 hP hK
  obtain ⟨rfl, hZ, hh⟩ := hP
  have hx := Bd.exec
  have hby := Bd.bytes
  have hml : c.maxLocals = 1 := hml0
  have hown : s.vm.findClass "com/example/stowage/stowage/ip/ProfileFollowsPinLaw" = some m.cls := findClass_of_methodNamed Bd.named
  have hnm := (name_of_methodNamed Bd.named Bd.method).1
  have X0 : Stand p l e ({ frames := 0, cells := 0, slots := 0, locals := 0 } : Room) s m #[(.int u0)] below meth c s₁ [] 0 0 := Stand.of_body Bd
  have e0 : s₁.heap = h0 := by rw [← hh, Bd.state]; rfl
  have N0 := Fr.nil n0
  show OFin p e below (ORet (Q_rm1 Z u0 aC aS aT aA h0 n0) s ({ frames := 0, cells := 0, slots := 0, locals := 0 } : Room).cells ({ frames := 0, cells := 0, slots := 0, locals := 0 } : Room).slots) (s₁.setTop (entryFrame m #[(.int u0)] 1))
  refine OFin.go (fun t k => castTop (ef_rm1 m u0) k) ?_
  show OFin p e below (ORet (Q_rm1 Z u0 aC aS aT aA h0 n0) s ({ frames := 0, cells := 0, slots := 0, locals := 0 } : Room).cells ({ frames := 0, cells := 0, slots := 0, locals := 0 } : Room).slots) (s₁.setTop (mkF m 0 #[.val (.int u0)] []))
  have S1 : ∀ t, Steps p.tables e below (s₁.setTop (mkF m 1 #[.val (.int u0)] [(.int u0)])) t → Steps p.tables e below (s₁.setTop (mkF m 0 #[.val (.int u0)] [])) t := by
    intro t k
    show Steps p.tables e below (s₁.setTop (mkF m 0 #[.val (.int u0)] [])) t
    refine XS.iloadN X0.here hx rfl (hb hby d1_0) rfl ?_
    exact k
  refine OFin.go S1 ?_
  by_cases h2 : (u0 = (0 : Int32))
  · -- pc 1: (u0 = (0 : Int32))
    have S3 : ∀ t, Steps p.tables e below (s₁.setTop (mkF m 4 #[.val (.int u0)] [])) t → Steps p.tables e below (s₁.setTop (mkF m 1 #[.val (.int u0)] [(.int u0)])) t := by
      intro t k
      show Steps p.tables e below (s₁.setTop (mkF m 1 #[.val (.int u0)] [(.int u0)])) t
      refine XS.ifNo X0.here hx rfl (hb hby d1_1) rfl ((if0 _ _).trans (teq h2).2) ?_
      exact k
    refine OFin.go S3 ?_
    obtain ⟨T4, X4, e4, st4⟩ := getS2 X0 hx hZ hown (host := "") (Or.inl (hw _ (List.mem_of_getElem? (i := 5) rfl))) Via.refl e0 SaC (g := (mkF m 4 #[.val (.int u0)] [])) rfl (hb hby d1_4)
    refine OFin.go st4 ?_
    show OFin p e below _ (T4.setTop (mkF m 7 #[.val (.int u0)] [(.ref aC)]))
    exact finA X4 hx Bd.notSynchronized rfl Bd.returns rfl (hb hby d1_7) (by decide) (by decide) (⟨congrArg some (show (.ref aC) = pk aC aS aT aA u0 by unfold pk; rw [if_pos h2]), N0, e4⟩)
  · -- pc 1: not (u0 = (0 : Int32))
    have S5 : ∀ t, Steps p.tables e below (s₁.setTop (mkF m 8 #[.val (.int u0)] [])) t → Steps p.tables e below (s₁.setTop (mkF m 1 #[.val (.int u0)] [(.int u0)])) t := by
      intro t k
      show Steps p.tables e below (s₁.setTop (mkF m 1 #[.val (.int u0)] [(.int u0)])) t
      refine XS.ifYes X0.here hx rfl (pc0 := 1) (pc' := 8) rfl (hb hby d1_1) rfl ((if0 _ _).trans (feq h2).2) (by decide) (by decide) ?_
      exact k
    refine OFin.go S5 ?_
    have S6 : ∀ t, Steps p.tables e below (s₁.setTop (mkF m 10 #[.val (.int u0)] [(.int (1 : Int32)), (.int u0)])) t → Steps p.tables e below (s₁.setTop (mkF m 8 #[.val (.int u0)] [])) t := by
      intro t k
      show Steps p.tables e below (s₁.setTop (mkF m 8 #[.val (.int u0)] [])) t
      refine XS.iloadN X0.here hx rfl (hb hby d1_8) rfl ?_
      show Steps p.tables e below (s₁.setTop (mkF m 9 #[.val (.int u0)] [(.int u0)])) t
      refine XS.iconst X0.here hx rfl (hb hby d1_9) ?_
      exact k
    refine OFin.go S6 ?_
    by_cases h7 : (u0 = (1 : Int32))
    · -- pc 10: (u0 = (1 : Int32))
      have S8 : ∀ t, Steps p.tables e below (s₁.setTop (mkF m 13 #[.val (.int u0)] [])) t → Steps p.tables e below (s₁.setTop (mkF m 10 #[.val (.int u0)] [(.int (1 : Int32)), (.int u0)])) t := by
        intro t k
        show Steps p.tables e below (s₁.setTop (mkF m 10 #[.val (.int u0)] [(.int (1 : Int32)), (.int u0)])) t
        refine XS.icmpNo X0.here hx rfl (hb hby d1_10) rfl (teq h7).2 ?_
        exact k
      refine OFin.go S8 ?_
      obtain ⟨T9, X9, e9, st9⟩ := getS2 X0 hx hZ hown (host := "") (Or.inl (hw _ (List.mem_of_getElem? (i := 19) rfl))) Via.refl e0 SaS (g := (mkF m 13 #[.val (.int u0)] [])) rfl (hb hby d1_13)
      refine OFin.go st9 ?_
      show OFin p e below _ (T9.setTop (mkF m 16 #[.val (.int u0)] [(.ref aS)]))
      exact finA X9 hx Bd.notSynchronized rfl Bd.returns rfl (hb hby d1_16) (by decide) (by decide) (⟨congrArg some (show (.ref aS) = pk aC aS aT aA u0 by unfold pk; rw [if_neg h2, if_pos h7]), N0, e9⟩)
    · -- pc 10: not (u0 = (1 : Int32))
      have S10 : ∀ t, Steps p.tables e below (s₁.setTop (mkF m 17 #[.val (.int u0)] [])) t → Steps p.tables e below (s₁.setTop (mkF m 10 #[.val (.int u0)] [(.int (1 : Int32)), (.int u0)])) t := by
        intro t k
        show Steps p.tables e below (s₁.setTop (mkF m 10 #[.val (.int u0)] [(.int (1 : Int32)), (.int u0)])) t
        refine XS.icmpYes X0.here hx rfl (pc0 := 10) (pc' := 17) rfl (hb hby d1_10) rfl (feq h7).2 (by decide) (by decide) ?_
        exact k
      refine OFin.go S10 ?_
      have S11 : ∀ t, Steps p.tables e below (s₁.setTop (mkF m 19 #[.val (.int u0)] [(.int (2 : Int32)), (.int u0)])) t → Steps p.tables e below (s₁.setTop (mkF m 17 #[.val (.int u0)] [])) t := by
        intro t k
        show Steps p.tables e below (s₁.setTop (mkF m 17 #[.val (.int u0)] [])) t
        refine XS.iloadN X0.here hx rfl (hb hby d1_17) rfl ?_
        show Steps p.tables e below (s₁.setTop (mkF m 18 #[.val (.int u0)] [(.int u0)])) t
        refine XS.iconst X0.here hx rfl (hb hby d1_18) ?_
        exact k
      refine OFin.go S11 ?_
      by_cases h12 : (u0 = (2 : Int32))
      · -- pc 19: (u0 = (2 : Int32))
        have S13 : ∀ t, Steps p.tables e below (s₁.setTop (mkF m 22 #[.val (.int u0)] [])) t → Steps p.tables e below (s₁.setTop (mkF m 19 #[.val (.int u0)] [(.int (2 : Int32)), (.int u0)])) t := by
          intro t k
          show Steps p.tables e below (s₁.setTop (mkF m 19 #[.val (.int u0)] [(.int (2 : Int32)), (.int u0)])) t
          refine XS.icmpNo X0.here hx rfl (hb hby d1_19) rfl (teq h12).2 ?_
          exact k
        refine OFin.go S13 ?_
        obtain ⟨T14, X14, e14, st14⟩ := getS2 X0 hx hZ hown (host := "") (Or.inl (hw _ (List.mem_of_getElem? (i := 17) rfl))) Via.refl e0 SaT (g := (mkF m 22 #[.val (.int u0)] [])) rfl (hb hby d1_22)
        refine OFin.go st14 ?_
        show OFin p e below _ (T14.setTop (mkF m 25 #[.val (.int u0)] [(.ref aT)]))
        exact finA X14 hx Bd.notSynchronized rfl Bd.returns rfl (hb hby d1_25) (by decide) (by decide) (⟨congrArg some (show (.ref aT) = pk aC aS aT aA u0 by unfold pk; rw [if_neg h2, if_neg h7, if_pos h12]), N0, e14⟩)
      · -- pc 19: not (u0 = (2 : Int32))
        have S15 : ∀ t, Steps p.tables e below (s₁.setTop (mkF m 26 #[.val (.int u0)] [])) t → Steps p.tables e below (s₁.setTop (mkF m 19 #[.val (.int u0)] [(.int (2 : Int32)), (.int u0)])) t := by
          intro t k
          show Steps p.tables e below (s₁.setTop (mkF m 19 #[.val (.int u0)] [(.int (2 : Int32)), (.int u0)])) t
          refine XS.icmpYes X0.here hx rfl (pc0 := 19) (pc' := 26) rfl (hb hby d1_19) rfl (feq h12).2 (by decide) (by decide) ?_
          exact k
        refine OFin.go S15 ?_
        have S16 : ∀ t, Steps p.tables e below (s₁.setTop (mkF m 28 #[.val (.int u0)] [(.int (3 : Int32)), (.int u0)])) t → Steps p.tables e below (s₁.setTop (mkF m 26 #[.val (.int u0)] [])) t := by
          intro t k
          show Steps p.tables e below (s₁.setTop (mkF m 26 #[.val (.int u0)] [])) t
          refine XS.iloadN X0.here hx rfl (hb hby d1_26) rfl ?_
          show Steps p.tables e below (s₁.setTop (mkF m 27 #[.val (.int u0)] [(.int u0)])) t
          refine XS.iconst X0.here hx rfl (hb hby d1_27) ?_
          exact k
        refine OFin.go S16 ?_
        by_cases h17 : (u0 = (3 : Int32))
        · -- pc 28: (u0 = (3 : Int32))
          have S18 : ∀ t, Steps p.tables e below (s₁.setTop (mkF m 31 #[.val (.int u0)] [])) t → Steps p.tables e below (s₁.setTop (mkF m 28 #[.val (.int u0)] [(.int (3 : Int32)), (.int u0)])) t := by
            intro t k
            show Steps p.tables e below (s₁.setTop (mkF m 28 #[.val (.int u0)] [(.int (3 : Int32)), (.int u0)])) t
            refine XS.icmpNo X0.here hx rfl (hb hby d1_28) rfl (teq h17).2 ?_
            exact k
          refine OFin.go S18 ?_
          obtain ⟨T19, X19, e19, st19⟩ := getS2 X0 hx hZ hown (host := "") (Or.inl (hw _ (List.mem_of_getElem? (i := 8) rfl))) Via.refl e0 SaA (g := (mkF m 31 #[.val (.int u0)] [])) rfl (hb hby d1_31)
          refine OFin.go st19 ?_
          show OFin p e below _ (T19.setTop (mkF m 34 #[.val (.int u0)] [(.ref aA)]))
          exact finA X19 hx Bd.notSynchronized rfl Bd.returns rfl (hb hby d1_34) (by decide) (by decide) (⟨congrArg some (show (.ref aA) = pk aC aS aT aA u0 by unfold pk; rw [if_neg h2, if_neg h7, if_neg h12, if_pos h17]), N0, e19⟩)
        · -- pc 28: not (u0 = (3 : Int32))
          have S20 : ∀ t, Steps p.tables e below (s₁.setTop (mkF m 35 #[.val (.int u0)] [])) t → Steps p.tables e below (s₁.setTop (mkF m 28 #[.val (.int u0)] [(.int (3 : Int32)), (.int u0)])) t := by
            intro t k
            show Steps p.tables e below (s₁.setTop (mkF m 28 #[.val (.int u0)] [(.int (3 : Int32)), (.int u0)])) t
            refine XS.icmpYes X0.here hx rfl (pc0 := 28) (pc' := 35) rfl (hb hby d1_28) rfl (feq h17).2 (by decide) (by decide) ?_
            exact k
          refine OFin.go S20 ?_
          have S21 : ∀ t, Steps p.tables e below (s₁.setTop (mkF m 36 #[.val (.int u0)] [.null])) t → Steps p.tables e below (s₁.setTop (mkF m 35 #[.val (.int u0)] [])) t := by
            intro t k
            show Steps p.tables e below (s₁.setTop (mkF m 35 #[.val (.int u0)] [])) t
            refine XS.aconstNull X0.here hx rfl (hb hby d1_35) ?_
            exact k
          refine OFin.go S21 ?_
          exact finA X0 hx Bd.notSynchronized rfl Bd.returns rfl (hb hby d1_36) (by decide) (by decide) (⟨congrArg some (show .null = pk aC aS aT aA u0 by unfold pk; rw [if_neg h2, if_neg h7, if_neg h12, if_neg h17]), N0, e0⟩)
theorem ef_rm2_0_0 (m : MethodId) (aC : Addr) : entryFrame m #[(.ref aC), (.ref aC)] 3 = mkF m 0 #[.val (.ref aC), .val (.ref aC), .unset] [] := by first | (simp [entryFrame, mkF, argsToLocals, Value.category]; done) | rfl
theorem pn_1 : plainName "com/example/stowage/stowage/ip/Profile" = true := by first | (simp [plainName, overriddenIn]; done) | decide +kernel
def Q_rm2_0_0 (Z : State)  (aC aS aT aA : Addr) (h0 : Heap) (n0 : Nat) (v : Option Value) (h : Heap) (L : List Loc) : Prop := v = some (.int (1 : Int32)) ∧ Fr n0 L ∧ h = h0
theorem d2_0 : decode prog_149_method_9_code 0 = .ok (.aload_n 0, 1) := by decide +kernel
theorem d2_1 : decode prog_149_method_9_code 1 = .ok (.astore_n 2, 1) := by decide +kernel
theorem d2_2 : decode prog_149_method_9_code 2 = .ok (.aload_n 2, 1) := by decide +kernel
theorem d2_3 : decode prog_149_method_9_code 3 = .ok (.ifnull 16, 3) := by decide +kernel
theorem d2_6 : decode prog_149_method_9_code 6 = .ok (.aload_n 2, 1) := by decide +kernel
theorem d2_7 : decode prog_149_method_9_code 7 = .ok (.aload_n 1, 1) := by decide +kernel
theorem d2_8 : decode prog_149_method_9_code 8 = .ok (.if_acmp .eq 11, 3) := by decide +kernel
theorem d2_19 : decode prog_149_method_9_code 19 = .ok (.aload_n 2, 1) := by decide +kernel
theorem d2_20 : decode prog_149_method_9_code 20 = .ok (.ifnull 7, 3) := by decide +kernel
theorem d2_23 : decode prog_149_method_9_code 23 = .ok (.iconst 1, 1) := by decide +kernel
theorem d2_24 : decode prog_149_method_9_code 24 = .ok (.goto 4, 3) := by decide +kernel
theorem d2_28 : decode prog_149_method_9_code 28 = .ok (.ireturn, 1) := by decide +kernel
set_option maxRecDepth 65536 in
set_option maxHeartbeats 40000000 in
theorem rm2_0_0 (l : Launch) (Z : State) (a0 : Array Value) (hw : ∀ d ∈ tables_1, d.before a0 Z = true) (ws : List Jvm.Cond)  (aC aS aT aA : Addr) (h0 : Heap) (n0 : Nat) (Z0 : n0 ≤ h0.size) (FaC : Fld Z h0 aC "com/example/stowage/stowage/ip/Profile" "base" "Lcom/example/stowage/stowage/ip/Profile;" .null) (FaS : Fld Z h0 aS "com/example/stowage/stowage/ip/Profile" "base" "Lcom/example/stowage/stowage/ip/Profile;" (.ref aC)) (FaT : Fld Z h0 aT "com/example/stowage/stowage/ip/Profile" "base" "Lcom/example/stowage/stowage/ip/Profile;" (.ref aS)) (FaA : Fld Z h0 aA "com/example/stowage/stowage/ip/Profile" "base" "Lcom/example/stowage/stowage/ip/Profile;" (.ref aC)) (naCaS : aC ≠ aS) (naCaT : aC ≠ aT) (naCaA : aC ≠ aA) (naSaT : aS ≠ aT) (naSaA : aS ≠ aA) (naTaA : aT ≠ aA) :
    MetFree l (⟨"com/example/stowage/stowage/ip/Profile", "follows", "(Lcom/example/stowage/stowage/ip/Profile;)Z"⟩ : MethodName) (head1 (Jvm.Cond.code (⟨"com/example/stowage/stowage/ip/Profile", "follows", "(Lcom/example/stowage/stowage/ip/Profile;)Z"⟩ : MethodName) prog_149_method_9_code 3 (some .boolean) :: ws) ({ frames := 0, cells := 0, slots := 0, locals := 0 } : Room)) (fun a U => a = #[(.ref aC), (.ref aC)] ∧ Z.Warmed39 U.vm ∧ U.heap = h0) (fun _ _ _ _ _ => True) (fun _ U o U' => ∃ v L, o = .returned v ∧ (Q_rm2_0_0 Z aC aS aT aA h0 n0) v U'.heap L ∧ FrameEnd U o U' L ({ frames := 0, cells := 0, slots := 0, locals := 0 } : Room).cells ({ frames := 0, cells := 0, slots := 0, locals := 0 } : Room).slots) := by
  refine MetFree.of_bodySF (plainFor_of_name pn_1) hisR ?_
  intro p e s m args below meth c s₁ Bd hml0 hP hK
  obtain ⟨rfl, hZ, hh⟩ := hP
  have hx := Bd.exec
  have hby := Bd.bytes
  have hml : c.maxLocals = 3 := hml0
  have hown : s.vm.findClass "com/example/stowage/stowage/ip/Profile" = some m.cls := findClass_of_methodNamed Bd.named
  have hnm := (name_of_methodNamed Bd.named Bd.method).1
  have X0 : Stand p l e ({ frames := 0, cells := 0, slots := 0, locals := 0 } : Room) s m #[(.ref aC), (.ref aC)] below meth c s₁ [] 0 0 := Stand.of_body Bd
  have e0 : s₁.heap = h0 := by rw [← hh, Bd.state]; rfl
  have N0 := Fr.nil n0
  show OFin p e below (ORet (Q_rm2_0_0 Z aC aS aT aA h0 n0) s ({ frames := 0, cells := 0, slots := 0, locals := 0 } : Room).cells ({ frames := 0, cells := 0, slots := 0, locals := 0 } : Room).slots) (s₁.setTop (entryFrame m #[(.ref aC), (.ref aC)] 3))
  refine OFin.go (fun t k => castTop (ef_rm2_0_0 m aC) k) ?_
  show OFin p e below (ORet (Q_rm2_0_0 Z aC aS aT aA h0 n0) s ({ frames := 0, cells := 0, slots := 0, locals := 0 } : Room).cells ({ frames := 0, cells := 0, slots := 0, locals := 0 } : Room).slots) (s₁.setTop (mkF m 0 #[.val (.ref aC), .val (.ref aC), .unset] []))
  have S1 : ∀ t, Steps p.tables e below (s₁.setTop (mkF m 3 #[.val (.ref aC), .val (.ref aC), .val (.ref aC)] [(.ref aC)])) t → Steps p.tables e below (s₁.setTop (mkF m 0 #[.val (.ref aC), .val (.ref aC), .unset] [])) t := by
    intro t k
    show Steps p.tables e below (s₁.setTop (mkF m 0 #[.val (.ref aC), .val (.ref aC), .unset] [])) t
    refine XS.aloadN X0.here hx rfl (hb hby d2_0) rfl rfl ?_
    show Steps p.tables e below (s₁.setTop (mkF m 1 #[.val (.ref aC), .val (.ref aC), .unset] [(.ref aC)])) t
    refine XS.astoreN X0.here hx rfl (hb hby d2_1) rfl rfl (l' := #[.val (.ref aC), .val (.ref aC), .val (.ref aC)]) rfl ?_
    show Steps p.tables e below (s₁.setTop (mkF m 2 #[.val (.ref aC), .val (.ref aC), .val (.ref aC)] [])) t
    refine XS.aloadN X0.here hx rfl (hb hby d2_2) rfl rfl ?_
    exact k
  refine OFin.go S1 ?_
  refine OFin.go (fun t k => ?_ : ∀ t, Steps p.tables e below (s₁.setTop (mkF m 6 #[.val (.ref aC), .val (.ref aC), .val (.ref aC)] [])) t → Steps p.tables e below (s₁.setTop (mkF m 3 #[.val (.ref aC), .val (.ref aC), .val (.ref aC)] [(.ref aC)])) t) ?_
  · show Steps p.tables e below (s₁.setTop (mkF m 3 #[.val (.ref aC), .val (.ref aC), .val (.ref aC)] [(.ref aC)])) t
    refine XS.ifnullNo X0.here hx rfl (hb hby d2_3) rfl ?_
    exact k
  have S2 : ∀ t, Steps p.tables e below (s₁.setTop (mkF m 8 #[.val (.ref aC), .val (.ref aC), .val (.ref aC)] [(.ref aC), (.ref aC)])) t → Steps p.tables e below (s₁.setTop (mkF m 6 #[.val (.ref aC), .val (.ref aC), .val (.ref aC)] [])) t := by
    intro t k
    show Steps p.tables e below (s₁.setTop (mkF m 6 #[.val (.ref aC), .val (.ref aC), .val (.ref aC)] [])) t
    refine XS.aloadN X0.here hx rfl (hb hby d2_6) rfl rfl ?_
    show Steps p.tables e below (s₁.setTop (mkF m 7 #[.val (.ref aC), .val (.ref aC), .val (.ref aC)] [(.ref aC)])) t
    refine XS.aloadN X0.here hx rfl (hb hby d2_7) rfl rfl ?_
    exact k
  refine OFin.go S2 ?_
  refine OFin.go (fun t k => ?_ : ∀ t, Steps p.tables e below (s₁.setTop (mkF m 19 #[.val (.ref aC), .val (.ref aC), .val (.ref aC)] [])) t → Steps p.tables e below (s₁.setTop (mkF m 8 #[.val (.ref aC), .val (.ref aC), .val (.ref aC)] [(.ref aC), (.ref aC)])) t) ?_
  · show Steps p.tables e below (s₁.setTop (mkF m 8 #[.val (.ref aC), .val (.ref aC), .val (.ref aC)] [(.ref aC), (.ref aC)])) t
    refine Jvm.RoadKit.acmp (g := (mkF m 8 #[.val (.ref aC), .val (.ref aC), .val (.ref aC)] [(.ref aC), (.ref aC)])) X0 hx rfl rfl rfl (pc0 := 8) (pc' := 19) (same := true) rfl (hb hby d2_8) rfl (decide_eq_true rfl) (by decide) (by decide) ?_
    exact k
  have S3 : ∀ t, Steps p.tables e below (s₁.setTop (mkF m 20 #[.val (.ref aC), .val (.ref aC), .val (.ref aC)] [(.ref aC)])) t → Steps p.tables e below (s₁.setTop (mkF m 19 #[.val (.ref aC), .val (.ref aC), .val (.ref aC)] [])) t := by
    intro t k
    show Steps p.tables e below (s₁.setTop (mkF m 19 #[.val (.ref aC), .val (.ref aC), .val (.ref aC)] [])) t
    refine XS.aloadN X0.here hx rfl (hb hby d2_19) rfl rfl ?_
    exact k
  refine OFin.go S3 ?_
  refine OFin.go (fun t k => ?_ : ∀ t, Steps p.tables e below (s₁.setTop (mkF m 23 #[.val (.ref aC), .val (.ref aC), .val (.ref aC)] [])) t → Steps p.tables e below (s₁.setTop (mkF m 20 #[.val (.ref aC), .val (.ref aC), .val (.ref aC)] [(.ref aC)])) t) ?_
  · show Steps p.tables e below (s₁.setTop (mkF m 20 #[.val (.ref aC), .val (.ref aC), .val (.ref aC)] [(.ref aC)])) t
    refine XS.ifnullNo X0.here hx rfl (hb hby d2_20) rfl ?_
    exact k
  have S4 : ∀ t, Steps p.tables e below (s₁.setTop (mkF m 28 #[.val (.ref aC), .val (.ref aC), .val (.ref aC)] [(.int (1 : Int32))])) t → Steps p.tables e below (s₁.setTop (mkF m 23 #[.val (.ref aC), .val (.ref aC), .val (.ref aC)] [])) t := by
    intro t k
    show Steps p.tables e below (s₁.setTop (mkF m 23 #[.val (.ref aC), .val (.ref aC), .val (.ref aC)] [])) t
    refine XS.iconst X0.here hx rfl (hb hby d2_23) ?_
    show Steps p.tables e below (s₁.setTop (mkF m 24 #[.val (.ref aC), .val (.ref aC), .val (.ref aC)] [(.int (1 : Int32))])) t
    refine XS.goto X0.here hx rfl (pc0 := 24) (pc' := 28) rfl (hb hby d2_24) (by decide) (by decide) ?_
    exact k
  refine OFin.go S4 ?_
  exact finZ X0 hx Bd.notSynchronized (t := .boolean) Bd.returns (by simp) (hb hby d2_28) rfl (by decide) (by decide) (⟨rfl, N0, e0⟩)
theorem ef_rm2_0_1 (m : MethodId) (aC : Addr) (aS : Addr) : entryFrame m #[(.ref aC), (.ref aS)] 3 = mkF m 0 #[.val (.ref aC), .val (.ref aS), .unset] [] := by first | (simp [entryFrame, mkF, argsToLocals, Value.category]; done) | rfl
def Q_rm2_0_1 (Z : State)  (aC aS aT aA : Addr) (h0 : Heap) (n0 : Nat) (v : Option Value) (h : Heap) (L : List Loc) : Prop := v = some (.int (0 : Int32)) ∧ Fr n0 L ∧ h = h0
theorem d2_11 : decode prog_149_method_9_code 11 = .ok (.aload_n 2, 1) := by decide +kernel
theorem d2_12 : decode prog_149_method_9_code 12 = .ok (.getfield 52, 3) := by decide +kernel
theorem d2_15 : decode prog_149_method_9_code 15 = .ok (.astore_n 2, 1) := by decide +kernel
theorem d2_16 : decode prog_149_method_9_code 16 = .ok (.goto (-14), 3) := by decide +kernel
theorem d2_27 : decode prog_149_method_9_code 27 = .ok (.iconst 0, 1) := by decide +kernel
set_option maxRecDepth 65536 in
set_option maxHeartbeats 40000000 in
theorem rm2_0_1 (l : Launch) (Z : State) (a0 : Array Value) (hw : ∀ d ∈ tables_1, d.before a0 Z = true) (ws : List Jvm.Cond)  (aC aS aT aA : Addr) (h0 : Heap) (n0 : Nat) (Z0 : n0 ≤ h0.size) (FaC : Fld Z h0 aC "com/example/stowage/stowage/ip/Profile" "base" "Lcom/example/stowage/stowage/ip/Profile;" .null) (FaS : Fld Z h0 aS "com/example/stowage/stowage/ip/Profile" "base" "Lcom/example/stowage/stowage/ip/Profile;" (.ref aC)) (FaT : Fld Z h0 aT "com/example/stowage/stowage/ip/Profile" "base" "Lcom/example/stowage/stowage/ip/Profile;" (.ref aS)) (FaA : Fld Z h0 aA "com/example/stowage/stowage/ip/Profile" "base" "Lcom/example/stowage/stowage/ip/Profile;" (.ref aC)) (naCaS : aC ≠ aS) (naCaT : aC ≠ aT) (naCaA : aC ≠ aA) (naSaT : aS ≠ aT) (naSaA : aS ≠ aA) (naTaA : aT ≠ aA) :
    MetFree l (⟨"com/example/stowage/stowage/ip/Profile", "follows", "(Lcom/example/stowage/stowage/ip/Profile;)Z"⟩ : MethodName) (head1 (Jvm.Cond.code (⟨"com/example/stowage/stowage/ip/Profile", "follows", "(Lcom/example/stowage/stowage/ip/Profile;)Z"⟩ : MethodName) prog_149_method_9_code 3 (some .boolean) :: ws) ({ frames := 0, cells := 0, slots := 0, locals := 0 } : Room)) (fun a U => a = #[(.ref aC), (.ref aS)] ∧ Z.Warmed39 U.vm ∧ U.heap = h0) (fun _ _ _ _ _ => True) (fun _ U o U' => ∃ v L, o = .returned v ∧ (Q_rm2_0_1 Z aC aS aT aA h0 n0) v U'.heap L ∧ FrameEnd U o U' L ({ frames := 0, cells := 0, slots := 0, locals := 0 } : Room).cells ({ frames := 0, cells := 0, slots := 0, locals := 0 } : Room).slots) := by
  refine MetFree.of_bodySF (plainFor_of_name pn_1) hisR ?_
  intro p e s m args below meth c s₁ Bd hml0 hP hK
  obtain ⟨rfl, hZ, hh⟩ := hP
  have hx := Bd.exec
  have hby := Bd.bytes
  have hml : c.maxLocals = 3 := hml0
  have hown : s.vm.findClass "com/example/stowage/stowage/ip/Profile" = some m.cls := findClass_of_methodNamed Bd.named
  have hnm := (name_of_methodNamed Bd.named Bd.method).1
  have X0 : Stand p l e ({ frames := 0, cells := 0, slots := 0, locals := 0 } : Room) s m #[(.ref aC), (.ref aS)] below meth c s₁ [] 0 0 := Stand.of_body Bd
  have e0 : s₁.heap = h0 := by rw [← hh, Bd.state]; rfl
  have N0 := Fr.nil n0
  show OFin p e below (ORet (Q_rm2_0_1 Z aC aS aT aA h0 n0) s ({ frames := 0, cells := 0, slots := 0, locals := 0 } : Room).cells ({ frames := 0, cells := 0, slots := 0, locals := 0 } : Room).slots) (s₁.setTop (entryFrame m #[(.ref aC), (.ref aS)] 3))
  refine OFin.go (fun t k => castTop (ef_rm2_0_1 m aC aS) k) ?_
  show OFin p e below (ORet (Q_rm2_0_1 Z aC aS aT aA h0 n0) s ({ frames := 0, cells := 0, slots := 0, locals := 0 } : Room).cells ({ frames := 0, cells := 0, slots := 0, locals := 0 } : Room).slots) (s₁.setTop (mkF m 0 #[.val (.ref aC), .val (.ref aS), .unset] []))
  have S1 : ∀ t, Steps p.tables e below (s₁.setTop (mkF m 3 #[.val (.ref aC), .val (.ref aS), .val (.ref aC)] [(.ref aC)])) t → Steps p.tables e below (s₁.setTop (mkF m 0 #[.val (.ref aC), .val (.ref aS), .unset] [])) t := by
    intro t k
    show Steps p.tables e below (s₁.setTop (mkF m 0 #[.val (.ref aC), .val (.ref aS), .unset] [])) t
    refine XS.aloadN X0.here hx rfl (hb hby d2_0) rfl rfl ?_
    show Steps p.tables e below (s₁.setTop (mkF m 1 #[.val (.ref aC), .val (.ref aS), .unset] [(.ref aC)])) t
    refine XS.astoreN X0.here hx rfl (hb hby d2_1) rfl rfl (l' := #[.val (.ref aC), .val (.ref aS), .val (.ref aC)]) rfl ?_
    show Steps p.tables e below (s₁.setTop (mkF m 2 #[.val (.ref aC), .val (.ref aS), .val (.ref aC)] [])) t
    refine XS.aloadN X0.here hx rfl (hb hby d2_2) rfl rfl ?_
    exact k
  refine OFin.go S1 ?_
  refine OFin.go (fun t k => ?_ : ∀ t, Steps p.tables e below (s₁.setTop (mkF m 6 #[.val (.ref aC), .val (.ref aS), .val (.ref aC)] [])) t → Steps p.tables e below (s₁.setTop (mkF m 3 #[.val (.ref aC), .val (.ref aS), .val (.ref aC)] [(.ref aC)])) t) ?_
  · show Steps p.tables e below (s₁.setTop (mkF m 3 #[.val (.ref aC), .val (.ref aS), .val (.ref aC)] [(.ref aC)])) t
    refine XS.ifnullNo X0.here hx rfl (hb hby d2_3) rfl ?_
    exact k
  have S2 : ∀ t, Steps p.tables e below (s₁.setTop (mkF m 8 #[.val (.ref aC), .val (.ref aS), .val (.ref aC)] [(.ref aS), (.ref aC)])) t → Steps p.tables e below (s₁.setTop (mkF m 6 #[.val (.ref aC), .val (.ref aS), .val (.ref aC)] [])) t := by
    intro t k
    show Steps p.tables e below (s₁.setTop (mkF m 6 #[.val (.ref aC), .val (.ref aS), .val (.ref aC)] [])) t
    refine XS.aloadN X0.here hx rfl (hb hby d2_6) rfl rfl ?_
    show Steps p.tables e below (s₁.setTop (mkF m 7 #[.val (.ref aC), .val (.ref aS), .val (.ref aC)] [(.ref aC)])) t
    refine XS.aloadN X0.here hx rfl (hb hby d2_7) rfl rfl ?_
    exact k
  refine OFin.go S2 ?_
  refine OFin.go (fun t k => ?_ : ∀ t, Steps p.tables e below (s₁.setTop (mkF m 11 #[.val (.ref aC), .val (.ref aS), .val (.ref aC)] [])) t → Steps p.tables e below (s₁.setTop (mkF m 8 #[.val (.ref aC), .val (.ref aS), .val (.ref aC)] [(.ref aS), (.ref aC)])) t) ?_
  · show Steps p.tables e below (s₁.setTop (mkF m 8 #[.val (.ref aC), .val (.ref aS), .val (.ref aC)] [(.ref aS), (.ref aC)])) t
    refine Jvm.RoadKit.acmp (g := (mkF m 8 #[.val (.ref aC), .val (.ref aS), .val (.ref aC)] [(.ref aS), (.ref aC)])) X0 hx rfl rfl rfl (pc0 := 8) (pc' := 11) (same := false) rfl (hb hby d2_8) rfl (decide_eq_false fun q => naCaS (Value.ref.inj q)) (by decide) (by decide) ?_
    exact k
  have S3 : ∀ t, Steps p.tables e below (s₁.setTop (mkF m 12 #[.val (.ref aC), .val (.ref aS), .val (.ref aC)] [(.ref aC)])) t → Steps p.tables e below (s₁.setTop (mkF m 11 #[.val (.ref aC), .val (.ref aS), .val (.ref aC)] [])) t := by
    intro t k
    show Steps p.tables e below (s₁.setTop (mkF m 11 #[.val (.ref aC), .val (.ref aS), .val (.ref aC)] [])) t
    refine XS.aloadN X0.here hx rfl (hb hby d2_11) rfl rfl ?_
    exact k
  refine OFin.go S3 ?_
  obtain ⟨T4, X4, e4, st4⟩ := getF X0 hx hZ hown (host := "") (Or.inl (hw _ (List.mem_of_getElem? (i := 15) rfl))) Via.refl e0 FaC (g := (mkF m 12 #[.val (.ref aC), .val (.ref aS), .val (.ref aC)] [(.ref aC)])) rfl rfl (hb hby d2_12)
  refine OFin.go st4 ?_
  show OFin p e below _ (T4.setTop (mkF m 15 #[.val (.ref aC), .val (.ref aS), .val (.ref aC)] [.null]))
  have S5 : ∀ t, Steps p.tables e below (T4.setTop (mkF m 3 #[.val (.ref aC), .val (.ref aS), .val .null] [.null])) t → Steps p.tables e below (T4.setTop (mkF m 15 #[.val (.ref aC), .val (.ref aS), .val (.ref aC)] [.null])) t := by
    intro t k
    show Steps p.tables e below (T4.setTop (mkF m 15 #[.val (.ref aC), .val (.ref aS), .val (.ref aC)] [.null])) t
    refine XS.astoreN X4.here hx rfl (hb hby d2_15) rfl rfl (l' := #[.val (.ref aC), .val (.ref aS), .val .null]) rfl ?_
    show Steps p.tables e below (T4.setTop (mkF m 16 #[.val (.ref aC), .val (.ref aS), .val .null] [])) t
    refine XS.goto X4.here hx rfl (pc0 := 16) (pc' := 2) rfl (hb hby d2_16) (by decide) (by decide) ?_
    show Steps p.tables e below (T4.setTop (mkF m 2 #[.val (.ref aC), .val (.ref aS), .val .null] [])) t
    refine XS.aloadN X4.here hx rfl (hb hby d2_2) rfl rfl ?_
    exact k
  refine OFin.go S5 ?_
  refine OFin.go (fun t k => ?_ : ∀ t, Steps p.tables e below (T4.setTop (mkF m 19 #[.val (.ref aC), .val (.ref aS), .val .null] [])) t → Steps p.tables e below (T4.setTop (mkF m 3 #[.val (.ref aC), .val (.ref aS), .val .null] [.null])) t) ?_
  · show Steps p.tables e below (T4.setTop (mkF m 3 #[.val (.ref aC), .val (.ref aS), .val .null] [.null])) t
    refine XS.ifnullYes X4.here hx rfl (pc0 := 3) (pc' := 19) rfl (hb hby d2_3) rfl (by decide) (by decide) ?_
    exact k
  have S6 : ∀ t, Steps p.tables e below (T4.setTop (mkF m 20 #[.val (.ref aC), .val (.ref aS), .val .null] [.null])) t → Steps p.tables e below (T4.setTop (mkF m 19 #[.val (.ref aC), .val (.ref aS), .val .null] [])) t := by
    intro t k
    show Steps p.tables e below (T4.setTop (mkF m 19 #[.val (.ref aC), .val (.ref aS), .val .null] [])) t
    refine XS.aloadN X4.here hx rfl (hb hby d2_19) rfl rfl ?_
    exact k
  refine OFin.go S6 ?_
  refine OFin.go (fun t k => ?_ : ∀ t, Steps p.tables e below (T4.setTop (mkF m 27 #[.val (.ref aC), .val (.ref aS), .val .null] [])) t → Steps p.tables e below (T4.setTop (mkF m 20 #[.val (.ref aC), .val (.ref aS), .val .null] [.null])) t) ?_
  · show Steps p.tables e below (T4.setTop (mkF m 20 #[.val (.ref aC), .val (.ref aS), .val .null] [.null])) t
    refine XS.ifnullYes X4.here hx rfl (pc0 := 20) (pc' := 27) rfl (hb hby d2_20) rfl (by decide) (by decide) ?_
    exact k
  have S7 : ∀ t, Steps p.tables e below (T4.setTop (mkF m 28 #[.val (.ref aC), .val (.ref aS), .val .null] [(.int (0 : Int32))])) t → Steps p.tables e below (T4.setTop (mkF m 27 #[.val (.ref aC), .val (.ref aS), .val .null] [])) t := by
    intro t k
    show Steps p.tables e below (T4.setTop (mkF m 27 #[.val (.ref aC), .val (.ref aS), .val .null] [])) t
    refine XS.iconst X4.here hx rfl (hb hby d2_27) ?_
    exact k
  refine OFin.go S7 ?_
  exact finZ X4 hx Bd.notSynchronized (t := .boolean) Bd.returns (by simp) (hb hby d2_28) rfl (by decide) (by decide) (⟨rfl, N0, e4⟩)
theorem ef_rm2_0_2 (m : MethodId) (aC : Addr) (aT : Addr) : entryFrame m #[(.ref aC), (.ref aT)] 3 = mkF m 0 #[.val (.ref aC), .val (.ref aT), .unset] [] := by first | (simp [entryFrame, mkF, argsToLocals, Value.category]; done) | rfl
def Q_rm2_0_2 (Z : State)  (aC aS aT aA : Addr) (h0 : Heap) (n0 : Nat) (v : Option Value) (h : Heap) (L : List Loc) : Prop := v = some (.int (0 : Int32)) ∧ Fr n0 L ∧ h = h0
set_option maxRecDepth 65536 in
set_option maxHeartbeats 40000000 in
theorem rm2_0_2 (l : Launch) (Z : State) (a0 : Array Value) (hw : ∀ d ∈ tables_1, d.before a0 Z = true) (ws : List Jvm.Cond)  (aC aS aT aA : Addr) (h0 : Heap) (n0 : Nat) (Z0 : n0 ≤ h0.size) (FaC : Fld Z h0 aC "com/example/stowage/stowage/ip/Profile" "base" "Lcom/example/stowage/stowage/ip/Profile;" .null) (FaS : Fld Z h0 aS "com/example/stowage/stowage/ip/Profile" "base" "Lcom/example/stowage/stowage/ip/Profile;" (.ref aC)) (FaT : Fld Z h0 aT "com/example/stowage/stowage/ip/Profile" "base" "Lcom/example/stowage/stowage/ip/Profile;" (.ref aS)) (FaA : Fld Z h0 aA "com/example/stowage/stowage/ip/Profile" "base" "Lcom/example/stowage/stowage/ip/Profile;" (.ref aC)) (naCaS : aC ≠ aS) (naCaT : aC ≠ aT) (naCaA : aC ≠ aA) (naSaT : aS ≠ aT) (naSaA : aS ≠ aA) (naTaA : aT ≠ aA) :
    MetFree l (⟨"com/example/stowage/stowage/ip/Profile", "follows", "(Lcom/example/stowage/stowage/ip/Profile;)Z"⟩ : MethodName) (head1 (Jvm.Cond.code (⟨"com/example/stowage/stowage/ip/Profile", "follows", "(Lcom/example/stowage/stowage/ip/Profile;)Z"⟩ : MethodName) prog_149_method_9_code 3 (some .boolean) :: ws) ({ frames := 0, cells := 0, slots := 0, locals := 0 } : Room)) (fun a U => a = #[(.ref aC), (.ref aT)] ∧ Z.Warmed39 U.vm ∧ U.heap = h0) (fun _ _ _ _ _ => True) (fun _ U o U' => ∃ v L, o = .returned v ∧ (Q_rm2_0_2 Z aC aS aT aA h0 n0) v U'.heap L ∧ FrameEnd U o U' L ({ frames := 0, cells := 0, slots := 0, locals := 0 } : Room).cells ({ frames := 0, cells := 0, slots := 0, locals := 0 } : Room).slots) := by
  refine MetFree.of_bodySF (plainFor_of_name pn_1) hisR ?_
  intro p e s m args below meth c s₁ Bd hml0 hP hK
  obtain ⟨rfl, hZ, hh⟩ := hP
  have hx := Bd.exec
  have hby := Bd.bytes
  have hml : c.maxLocals = 3 := hml0
  have hown : s.vm.findClass "com/example/stowage/stowage/ip/Profile" = some m.cls := findClass_of_methodNamed Bd.named
  have hnm := (name_of_methodNamed Bd.named Bd.method).1
  have X0 : Stand p l e ({ frames := 0, cells := 0, slots := 0, locals := 0 } : Room) s m #[(.ref aC), (.ref aT)] below meth c s₁ [] 0 0 := Stand.of_body Bd
  have e0 : s₁.heap = h0 := by rw [← hh, Bd.state]; rfl
  have N0 := Fr.nil n0
  show OFin p e below (ORet (Q_rm2_0_2 Z aC aS aT aA h0 n0) s ({ frames := 0, cells := 0, slots := 0, locals := 0 } : Room).cells ({ frames := 0, cells := 0, slots := 0, locals := 0 } : Room).slots) (s₁.setTop (entryFrame m #[(.ref aC), (.ref aT)] 3))
  refine OFin.go (fun t k => castTop (ef_rm2_0_2 m aC aT) k) ?_
  show OFin p e below (ORet (Q_rm2_0_2 Z aC aS aT aA h0 n0) s ({ frames := 0, cells := 0, slots := 0, locals := 0 } : Room).cells ({ frames := 0, cells := 0, slots := 0, locals := 0 } : Room).slots) (s₁.setTop (mkF m 0 #[.val (.ref aC), .val (.ref aT), .unset] []))
  have S1 : ∀ t, Steps p.tables e below (s₁.setTop (mkF m 3 #[.val (.ref aC), .val (.ref aT), .val (.ref aC)] [(.ref aC)])) t → Steps p.tables e below (s₁.setTop (mkF m 0 #[.val (.ref aC), .val (.ref aT), .unset] [])) t := by
    intro t k
    show Steps p.tables e below (s₁.setTop (mkF m 0 #[.val (.ref aC), .val (.ref aT), .unset] [])) t
    refine XS.aloadN X0.here hx rfl (hb hby d2_0) rfl rfl ?_
    show Steps p.tables e below (s₁.setTop (mkF m 1 #[.val (.ref aC), .val (.ref aT), .unset] [(.ref aC)])) t
    refine XS.astoreN X0.here hx rfl (hb hby d2_1) rfl rfl (l' := #[.val (.ref aC), .val (.ref aT), .val (.ref aC)]) rfl ?_
    show Steps p.tables e below (s₁.setTop (mkF m 2 #[.val (.ref aC), .val (.ref aT), .val (.ref aC)] [])) t
    refine XS.aloadN X0.here hx rfl (hb hby d2_2) rfl rfl ?_
    exact k
  refine OFin.go S1 ?_
  refine OFin.go (fun t k => ?_ : ∀ t, Steps p.tables e below (s₁.setTop (mkF m 6 #[.val (.ref aC), .val (.ref aT), .val (.ref aC)] [])) t → Steps p.tables e below (s₁.setTop (mkF m 3 #[.val (.ref aC), .val (.ref aT), .val (.ref aC)] [(.ref aC)])) t) ?_
  · show Steps p.tables e below (s₁.setTop (mkF m 3 #[.val (.ref aC), .val (.ref aT), .val (.ref aC)] [(.ref aC)])) t
    refine XS.ifnullNo X0.here hx rfl (hb hby d2_3) rfl ?_
    exact k
  have S2 : ∀ t, Steps p.tables e below (s₁.setTop (mkF m 8 #[.val (.ref aC), .val (.ref aT), .val (.ref aC)] [(.ref aT), (.ref aC)])) t → Steps p.tables e below (s₁.setTop (mkF m 6 #[.val (.ref aC), .val (.ref aT), .val (.ref aC)] [])) t := by
    intro t k
    show Steps p.tables e below (s₁.setTop (mkF m 6 #[.val (.ref aC), .val (.ref aT), .val (.ref aC)] [])) t
    refine XS.aloadN X0.here hx rfl (hb hby d2_6) rfl rfl ?_
    show Steps p.tables e below (s₁.setTop (mkF m 7 #[.val (.ref aC), .val (.ref aT), .val (.ref aC)] [(.ref aC)])) t
    refine XS.aloadN X0.here hx rfl (hb hby d2_7) rfl rfl ?_
    exact k
  refine OFin.go S2 ?_
  refine OFin.go (fun t k => ?_ : ∀ t, Steps p.tables e below (s₁.setTop (mkF m 11 #[.val (.ref aC), .val (.ref aT), .val (.ref aC)] [])) t → Steps p.tables e below (s₁.setTop (mkF m 8 #[.val (.ref aC), .val (.ref aT), .val (.ref aC)] [(.ref aT), (.ref aC)])) t) ?_
  · show Steps p.tables e below (s₁.setTop (mkF m 8 #[.val (.ref aC), .val (.ref aT), .val (.ref aC)] [(.ref aT), (.ref aC)])) t
    refine Jvm.RoadKit.acmp (g := (mkF m 8 #[.val (.ref aC), .val (.ref aT), .val (.ref aC)] [(.ref aT), (.ref aC)])) X0 hx rfl rfl rfl (pc0 := 8) (pc' := 11) (same := false) rfl (hb hby d2_8) rfl (decide_eq_false fun q => naCaT (Value.ref.inj q)) (by decide) (by decide) ?_
    exact k
  have S3 : ∀ t, Steps p.tables e below (s₁.setTop (mkF m 12 #[.val (.ref aC), .val (.ref aT), .val (.ref aC)] [(.ref aC)])) t → Steps p.tables e below (s₁.setTop (mkF m 11 #[.val (.ref aC), .val (.ref aT), .val (.ref aC)] [])) t := by
    intro t k
    show Steps p.tables e below (s₁.setTop (mkF m 11 #[.val (.ref aC), .val (.ref aT), .val (.ref aC)] [])) t
    refine XS.aloadN X0.here hx rfl (hb hby d2_11) rfl rfl ?_
    exact k
  refine OFin.go S3 ?_
  obtain ⟨T4, X4, e4, st4⟩ := getF X0 hx hZ hown (host := "") (Or.inl (hw _ (List.mem_of_getElem? (i := 15) rfl))) Via.refl e0 FaC (g := (mkF m 12 #[.val (.ref aC), .val (.ref aT), .val (.ref aC)] [(.ref aC)])) rfl rfl (hb hby d2_12)
  refine OFin.go st4 ?_
  show OFin p e below _ (T4.setTop (mkF m 15 #[.val (.ref aC), .val (.ref aT), .val (.ref aC)] [.null]))
  have S5 : ∀ t, Steps p.tables e below (T4.setTop (mkF m 3 #[.val (.ref aC), .val (.ref aT), .val .null] [.null])) t → Steps p.tables e below (T4.setTop (mkF m 15 #[.val (.ref aC), .val (.ref aT), .val (.ref aC)] [.null])) t := by
    intro t k
    show Steps p.tables e below (T4.setTop (mkF m 15 #[.val (.ref aC), .val (.ref aT), .val (.ref aC)] [.null])) t
    refine XS.astoreN X4.here hx rfl (hb hby d2_15) rfl rfl (l' := #[.val (.ref aC), .val (.ref aT), .val .null]) rfl ?_
    show Steps p.tables e below (T4.setTop (mkF m 16 #[.val (.ref aC), .val (.ref aT), .val .null] [])) t
    refine XS.goto X4.here hx rfl (pc0 := 16) (pc' := 2) rfl (hb hby d2_16) (by decide) (by decide) ?_
    show Steps p.tables e below (T4.setTop (mkF m 2 #[.val (.ref aC), .val (.ref aT), .val .null] [])) t
    refine XS.aloadN X4.here hx rfl (hb hby d2_2) rfl rfl ?_
    exact k
  refine OFin.go S5 ?_
  refine OFin.go (fun t k => ?_ : ∀ t, Steps p.tables e below (T4.setTop (mkF m 19 #[.val (.ref aC), .val (.ref aT), .val .null] [])) t → Steps p.tables e below (T4.setTop (mkF m 3 #[.val (.ref aC), .val (.ref aT), .val .null] [.null])) t) ?_
  · show Steps p.tables e below (T4.setTop (mkF m 3 #[.val (.ref aC), .val (.ref aT), .val .null] [.null])) t
    refine XS.ifnullYes X4.here hx rfl (pc0 := 3) (pc' := 19) rfl (hb hby d2_3) rfl (by decide) (by decide) ?_
    exact k
  have S6 : ∀ t, Steps p.tables e below (T4.setTop (mkF m 20 #[.val (.ref aC), .val (.ref aT), .val .null] [.null])) t → Steps p.tables e below (T4.setTop (mkF m 19 #[.val (.ref aC), .val (.ref aT), .val .null] [])) t := by
    intro t k
    show Steps p.tables e below (T4.setTop (mkF m 19 #[.val (.ref aC), .val (.ref aT), .val .null] [])) t
    refine XS.aloadN X4.here hx rfl (hb hby d2_19) rfl rfl ?_
    exact k
  refine OFin.go S6 ?_
  refine OFin.go (fun t k => ?_ : ∀ t, Steps p.tables e below (T4.setTop (mkF m 27 #[.val (.ref aC), .val (.ref aT), .val .null] [])) t → Steps p.tables e below (T4.setTop (mkF m 20 #[.val (.ref aC), .val (.ref aT), .val .null] [.null])) t) ?_
  · show Steps p.tables e below (T4.setTop (mkF m 20 #[.val (.ref aC), .val (.ref aT), .val .null] [.null])) t
    refine XS.ifnullYes X4.here hx rfl (pc0 := 20) (pc' := 27) rfl (hb hby d2_20) rfl (by decide) (by decide) ?_
    exact k
  have S7 : ∀ t, Steps p.tables e below (T4.setTop (mkF m 28 #[.val (.ref aC), .val (.ref aT), .val .null] [(.int (0 : Int32))])) t → Steps p.tables e below (T4.setTop (mkF m 27 #[.val (.ref aC), .val (.ref aT), .val .null] [])) t := by
    intro t k
    show Steps p.tables e below (T4.setTop (mkF m 27 #[.val (.ref aC), .val (.ref aT), .val .null] [])) t
    refine XS.iconst X4.here hx rfl (hb hby d2_27) ?_
    exact k
  refine OFin.go S7 ?_
  exact finZ X4 hx Bd.notSynchronized (t := .boolean) Bd.returns (by simp) (hb hby d2_28) rfl (by decide) (by decide) (⟨rfl, N0, e4⟩)
theorem ef_rm2_0_3 (m : MethodId) (aC : Addr) (aA : Addr) : entryFrame m #[(.ref aC), (.ref aA)] 3 = mkF m 0 #[.val (.ref aC), .val (.ref aA), .unset] [] := by first | (simp [entryFrame, mkF, argsToLocals, Value.category]; done) | rfl
def Q_rm2_0_3 (Z : State)  (aC aS aT aA : Addr) (h0 : Heap) (n0 : Nat) (v : Option Value) (h : Heap) (L : List Loc) : Prop := v = some (.int (0 : Int32)) ∧ Fr n0 L ∧ h = h0
set_option maxRecDepth 65536 in
set_option maxHeartbeats 40000000 in
theorem rm2_0_3 (l : Launch) (Z : State) (a0 : Array Value) (hw : ∀ d ∈ tables_1, d.before a0 Z = true) (ws : List Jvm.Cond)  (aC aS aT aA : Addr) (h0 : Heap) (n0 : Nat) (Z0 : n0 ≤ h0.size) (FaC : Fld Z h0 aC "com/example/stowage/stowage/ip/Profile" "base" "Lcom/example/stowage/stowage/ip/Profile;" .null) (FaS : Fld Z h0 aS "com/example/stowage/stowage/ip/Profile" "base" "Lcom/example/stowage/stowage/ip/Profile;" (.ref aC)) (FaT : Fld Z h0 aT "com/example/stowage/stowage/ip/Profile" "base" "Lcom/example/stowage/stowage/ip/Profile;" (.ref aS)) (FaA : Fld Z h0 aA "com/example/stowage/stowage/ip/Profile" "base" "Lcom/example/stowage/stowage/ip/Profile;" (.ref aC)) (naCaS : aC ≠ aS) (naCaT : aC ≠ aT) (naCaA : aC ≠ aA) (naSaT : aS ≠ aT) (naSaA : aS ≠ aA) (naTaA : aT ≠ aA) :
    MetFree l (⟨"com/example/stowage/stowage/ip/Profile", "follows", "(Lcom/example/stowage/stowage/ip/Profile;)Z"⟩ : MethodName) (head1 (Jvm.Cond.code (⟨"com/example/stowage/stowage/ip/Profile", "follows", "(Lcom/example/stowage/stowage/ip/Profile;)Z"⟩ : MethodName) prog_149_method_9_code 3 (some .boolean) :: ws) ({ frames := 0, cells := 0, slots := 0, locals := 0 } : Room)) (fun a U => a = #[(.ref aC), (.ref aA)] ∧ Z.Warmed39 U.vm ∧ U.heap = h0) (fun _ _ _ _ _ => True) (fun _ U o U' => ∃ v L, o = .returned v ∧ (Q_rm2_0_3 Z aC aS aT aA h0 n0) v U'.heap L ∧ FrameEnd U o U' L ({ frames := 0, cells := 0, slots := 0, locals := 0 } : Room).cells ({ frames := 0, cells := 0, slots := 0, locals := 0 } : Room).slots) := by
  refine MetFree.of_bodySF (plainFor_of_name pn_1) hisR ?_
  intro p e s m args below meth c s₁ Bd hml0 hP hK
  obtain ⟨rfl, hZ, hh⟩ := hP
  have hx := Bd.exec
  have hby := Bd.bytes
  have hml : c.maxLocals = 3 := hml0
  have hown : s.vm.findClass "com/example/stowage/stowage/ip/Profile" = some m.cls := findClass_of_methodNamed Bd.named
  have hnm := (name_of_methodNamed Bd.named Bd.method).1
  have X0 : Stand p l e ({ frames := 0, cells := 0, slots := 0, locals := 0 } : Room) s m #[(.ref aC), (.ref aA)] below meth c s₁ [] 0 0 := Stand.of_body Bd
  have e0 : s₁.heap = h0 := by rw [← hh, Bd.state]; rfl
  have N0 := Fr.nil n0
  show OFin p e below (ORet (Q_rm2_0_3 Z aC aS aT aA h0 n0) s ({ frames := 0, cells := 0, slots := 0, locals := 0 } : Room).cells ({ frames := 0, cells := 0, slots := 0, locals := 0 } : Room).slots) (s₁.setTop (entryFrame m #[(.ref aC), (.ref aA)] 3))
  refine OFin.go (fun t k => castTop (ef_rm2_0_3 m aC aA) k) ?_
  show OFin p e below (ORet (Q_rm2_0_3 Z aC aS aT aA h0 n0) s ({ frames := 0, cells := 0, slots := 0, locals := 0 } : Room).cells ({ frames := 0, cells := 0, slots := 0, locals := 0 } : Room).slots) (s₁.setTop (mkF m 0 #[.val (.ref aC), .val (.ref aA), .unset] []))
  have S1 : ∀ t, Steps p.tables e below (s₁.setTop (mkF m 3 #[.val (.ref aC), .val (.ref aA), .val (.ref aC)] [(.ref aC)])) t → Steps p.tables e below (s₁.setTop (mkF m 0 #[.val (.ref aC), .val (.ref aA), .unset] [])) t := by
    intro t k
    show Steps p.tables e below (s₁.setTop (mkF m 0 #[.val (.ref aC), .val (.ref aA), .unset] [])) t
    refine XS.aloadN X0.here hx rfl (hb hby d2_0) rfl rfl ?_
    show Steps p.tables e below (s₁.setTop (mkF m 1 #[.val (.ref aC), .val (.ref aA), .unset] [(.ref aC)])) t
    refine XS.astoreN X0.here hx rfl (hb hby d2_1) rfl rfl (l' := #[.val (.ref aC), .val (.ref aA), .val (.ref aC)]) rfl ?_
    show Steps p.tables e below (s₁.setTop (mkF m 2 #[.val (.ref aC), .val (.ref aA), .val (.ref aC)] [])) t
    refine XS.aloadN X0.here hx rfl (hb hby d2_2) rfl rfl ?_
    exact k
  refine OFin.go S1 ?_
  refine OFin.go (fun t k => ?_ : ∀ t, Steps p.tables e below (s₁.setTop (mkF m 6 #[.val (.ref aC), .val (.ref aA), .val (.ref aC)] [])) t → Steps p.tables e below (s₁.setTop (mkF m 3 #[.val (.ref aC), .val (.ref aA), .val (.ref aC)] [(.ref aC)])) t) ?_
  · show Steps p.tables e below (s₁.setTop (mkF m 3 #[.val (.ref aC), .val (.ref aA), .val (.ref aC)] [(.ref aC)])) t
    refine XS.ifnullNo X0.here hx rfl (hb hby d2_3) rfl ?_
    exact k
  have S2 : ∀ t, Steps p.tables e below (s₁.setTop (mkF m 8 #[.val (.ref aC), .val (.ref aA), .val (.ref aC)] [(.ref aA), (.ref aC)])) t → Steps p.tables e below (s₁.setTop (mkF m 6 #[.val (.ref aC), .val (.ref aA), .val (.ref aC)] [])) t := by
    intro t k
    show Steps p.tables e below (s₁.setTop (mkF m 6 #[.val (.ref aC), .val (.ref aA), .val (.ref aC)] [])) t
    refine XS.aloadN X0.here hx rfl (hb hby d2_6) rfl rfl ?_
    show Steps p.tables e below (s₁.setTop (mkF m 7 #[.val (.ref aC), .val (.ref aA), .val (.ref aC)] [(.ref aC)])) t
    refine XS.aloadN X0.here hx rfl (hb hby d2_7) rfl rfl ?_
    exact k
  refine OFin.go S2 ?_
  refine OFin.go (fun t k => ?_ : ∀ t, Steps p.tables e below (s₁.setTop (mkF m 11 #[.val (.ref aC), .val (.ref aA), .val (.ref aC)] [])) t → Steps p.tables e below (s₁.setTop (mkF m 8 #[.val (.ref aC), .val (.ref aA), .val (.ref aC)] [(.ref aA), (.ref aC)])) t) ?_
  · show Steps p.tables e below (s₁.setTop (mkF m 8 #[.val (.ref aC), .val (.ref aA), .val (.ref aC)] [(.ref aA), (.ref aC)])) t
    refine Jvm.RoadKit.acmp (g := (mkF m 8 #[.val (.ref aC), .val (.ref aA), .val (.ref aC)] [(.ref aA), (.ref aC)])) X0 hx rfl rfl rfl (pc0 := 8) (pc' := 11) (same := false) rfl (hb hby d2_8) rfl (decide_eq_false fun q => naCaA (Value.ref.inj q)) (by decide) (by decide) ?_
    exact k
  have S3 : ∀ t, Steps p.tables e below (s₁.setTop (mkF m 12 #[.val (.ref aC), .val (.ref aA), .val (.ref aC)] [(.ref aC)])) t → Steps p.tables e below (s₁.setTop (mkF m 11 #[.val (.ref aC), .val (.ref aA), .val (.ref aC)] [])) t := by
    intro t k
    show Steps p.tables e below (s₁.setTop (mkF m 11 #[.val (.ref aC), .val (.ref aA), .val (.ref aC)] [])) t
    refine XS.aloadN X0.here hx rfl (hb hby d2_11) rfl rfl ?_
    exact k
  refine OFin.go S3 ?_
  obtain ⟨T4, X4, e4, st4⟩ := getF X0 hx hZ hown (host := "") (Or.inl (hw _ (List.mem_of_getElem? (i := 15) rfl))) Via.refl e0 FaC (g := (mkF m 12 #[.val (.ref aC), .val (.ref aA), .val (.ref aC)] [(.ref aC)])) rfl rfl (hb hby d2_12)
  refine OFin.go st4 ?_
  show OFin p e below _ (T4.setTop (mkF m 15 #[.val (.ref aC), .val (.ref aA), .val (.ref aC)] [.null]))
  have S5 : ∀ t, Steps p.tables e below (T4.setTop (mkF m 3 #[.val (.ref aC), .val (.ref aA), .val .null] [.null])) t → Steps p.tables e below (T4.setTop (mkF m 15 #[.val (.ref aC), .val (.ref aA), .val (.ref aC)] [.null])) t := by
    intro t k
    show Steps p.tables e below (T4.setTop (mkF m 15 #[.val (.ref aC), .val (.ref aA), .val (.ref aC)] [.null])) t
    refine XS.astoreN X4.here hx rfl (hb hby d2_15) rfl rfl (l' := #[.val (.ref aC), .val (.ref aA), .val .null]) rfl ?_
    show Steps p.tables e below (T4.setTop (mkF m 16 #[.val (.ref aC), .val (.ref aA), .val .null] [])) t
    refine XS.goto X4.here hx rfl (pc0 := 16) (pc' := 2) rfl (hb hby d2_16) (by decide) (by decide) ?_
    show Steps p.tables e below (T4.setTop (mkF m 2 #[.val (.ref aC), .val (.ref aA), .val .null] [])) t
    refine XS.aloadN X4.here hx rfl (hb hby d2_2) rfl rfl ?_
    exact k
  refine OFin.go S5 ?_
  refine OFin.go (fun t k => ?_ : ∀ t, Steps p.tables e below (T4.setTop (mkF m 19 #[.val (.ref aC), .val (.ref aA), .val .null] [])) t → Steps p.tables e below (T4.setTop (mkF m 3 #[.val (.ref aC), .val (.ref aA), .val .null] [.null])) t) ?_
  · show Steps p.tables e below (T4.setTop (mkF m 3 #[.val (.ref aC), .val (.ref aA), .val .null] [.null])) t
    refine XS.ifnullYes X4.here hx rfl (pc0 := 3) (pc' := 19) rfl (hb hby d2_3) rfl (by decide) (by decide) ?_
    exact k
  have S6 : ∀ t, Steps p.tables e below (T4.setTop (mkF m 20 #[.val (.ref aC), .val (.ref aA), .val .null] [.null])) t → Steps p.tables e below (T4.setTop (mkF m 19 #[.val (.ref aC), .val (.ref aA), .val .null] [])) t := by
    intro t k
    show Steps p.tables e below (T4.setTop (mkF m 19 #[.val (.ref aC), .val (.ref aA), .val .null] [])) t
    refine XS.aloadN X4.here hx rfl (hb hby d2_19) rfl rfl ?_
    exact k
  refine OFin.go S6 ?_
  refine OFin.go (fun t k => ?_ : ∀ t, Steps p.tables e below (T4.setTop (mkF m 27 #[.val (.ref aC), .val (.ref aA), .val .null] [])) t → Steps p.tables e below (T4.setTop (mkF m 20 #[.val (.ref aC), .val (.ref aA), .val .null] [.null])) t) ?_
  · show Steps p.tables e below (T4.setTop (mkF m 20 #[.val (.ref aC), .val (.ref aA), .val .null] [.null])) t
    refine XS.ifnullYes X4.here hx rfl (pc0 := 20) (pc' := 27) rfl (hb hby d2_20) rfl (by decide) (by decide) ?_
    exact k
  have S7 : ∀ t, Steps p.tables e below (T4.setTop (mkF m 28 #[.val (.ref aC), .val (.ref aA), .val .null] [(.int (0 : Int32))])) t → Steps p.tables e below (T4.setTop (mkF m 27 #[.val (.ref aC), .val (.ref aA), .val .null] [])) t := by
    intro t k
    show Steps p.tables e below (T4.setTop (mkF m 27 #[.val (.ref aC), .val (.ref aA), .val .null] [])) t
    refine XS.iconst X4.here hx rfl (hb hby d2_27) ?_
    exact k
  refine OFin.go S7 ?_
  exact finZ X4 hx Bd.notSynchronized (t := .boolean) Bd.returns (by simp) (hb hby d2_28) rfl (by decide) (by decide) (⟨rfl, N0, e4⟩)
theorem ef_rm2_0_4 (m : MethodId) (aC : Addr) : entryFrame m #[(.ref aC), .null] 3 = mkF m 0 #[.val (.ref aC), .val .null, .unset] [] := by first | (simp [entryFrame, mkF, argsToLocals, Value.category]; done) | rfl
def Q_rm2_0_4 (Z : State)  (aC aS aT aA : Addr) (h0 : Heap) (n0 : Nat) (v : Option Value) (h : Heap) (L : List Loc) : Prop := v = some (.int (0 : Int32)) ∧ Fr n0 L ∧ h = h0
set_option maxRecDepth 65536 in
set_option maxHeartbeats 40000000 in
theorem rm2_0_4 (l : Launch) (Z : State) (a0 : Array Value) (hw : ∀ d ∈ tables_1, d.before a0 Z = true) (ws : List Jvm.Cond)  (aC aS aT aA : Addr) (h0 : Heap) (n0 : Nat) (Z0 : n0 ≤ h0.size) (FaC : Fld Z h0 aC "com/example/stowage/stowage/ip/Profile" "base" "Lcom/example/stowage/stowage/ip/Profile;" .null) (FaS : Fld Z h0 aS "com/example/stowage/stowage/ip/Profile" "base" "Lcom/example/stowage/stowage/ip/Profile;" (.ref aC)) (FaT : Fld Z h0 aT "com/example/stowage/stowage/ip/Profile" "base" "Lcom/example/stowage/stowage/ip/Profile;" (.ref aS)) (FaA : Fld Z h0 aA "com/example/stowage/stowage/ip/Profile" "base" "Lcom/example/stowage/stowage/ip/Profile;" (.ref aC)) (naCaS : aC ≠ aS) (naCaT : aC ≠ aT) (naCaA : aC ≠ aA) (naSaT : aS ≠ aT) (naSaA : aS ≠ aA) (naTaA : aT ≠ aA) :
    MetFree l (⟨"com/example/stowage/stowage/ip/Profile", "follows", "(Lcom/example/stowage/stowage/ip/Profile;)Z"⟩ : MethodName) (head1 (Jvm.Cond.code (⟨"com/example/stowage/stowage/ip/Profile", "follows", "(Lcom/example/stowage/stowage/ip/Profile;)Z"⟩ : MethodName) prog_149_method_9_code 3 (some .boolean) :: ws) ({ frames := 0, cells := 0, slots := 0, locals := 0 } : Room)) (fun a U => a = #[(.ref aC), .null] ∧ Z.Warmed39 U.vm ∧ U.heap = h0) (fun _ _ _ _ _ => True) (fun _ U o U' => ∃ v L, o = .returned v ∧ (Q_rm2_0_4 Z aC aS aT aA h0 n0) v U'.heap L ∧ FrameEnd U o U' L ({ frames := 0, cells := 0, slots := 0, locals := 0 } : Room).cells ({ frames := 0, cells := 0, slots := 0, locals := 0 } : Room).slots) := by
  refine MetFree.of_bodySF (plainFor_of_name pn_1) hisR ?_
  intro p e s m args below meth c s₁ Bd hml0 hP hK
  obtain ⟨rfl, hZ, hh⟩ := hP
  have hx := Bd.exec
  have hby := Bd.bytes
  have hml : c.maxLocals = 3 := hml0
  have hown : s.vm.findClass "com/example/stowage/stowage/ip/Profile" = some m.cls := findClass_of_methodNamed Bd.named
  have hnm := (name_of_methodNamed Bd.named Bd.method).1
  have X0 : Stand p l e ({ frames := 0, cells := 0, slots := 0, locals := 0 } : Room) s m #[(.ref aC), .null] below meth c s₁ [] 0 0 := Stand.of_body Bd
  have e0 : s₁.heap = h0 := by rw [← hh, Bd.state]; rfl
  have N0 := Fr.nil n0
  show OFin p e below (ORet (Q_rm2_0_4 Z aC aS aT aA h0 n0) s ({ frames := 0, cells := 0, slots := 0, locals := 0 } : Room).cells ({ frames := 0, cells := 0, slots := 0, locals := 0 } : Room).slots) (s₁.setTop (entryFrame m #[(.ref aC), .null] 3))
  refine OFin.go (fun t k => castTop (ef_rm2_0_4 m aC) k) ?_
  show OFin p e below (ORet (Q_rm2_0_4 Z aC aS aT aA h0 n0) s ({ frames := 0, cells := 0, slots := 0, locals := 0 } : Room).cells ({ frames := 0, cells := 0, slots := 0, locals := 0 } : Room).slots) (s₁.setTop (mkF m 0 #[.val (.ref aC), .val .null, .unset] []))
  have S1 : ∀ t, Steps p.tables e below (s₁.setTop (mkF m 3 #[.val (.ref aC), .val .null, .val (.ref aC)] [(.ref aC)])) t → Steps p.tables e below (s₁.setTop (mkF m 0 #[.val (.ref aC), .val .null, .unset] [])) t := by
    intro t k
    show Steps p.tables e below (s₁.setTop (mkF m 0 #[.val (.ref aC), .val .null, .unset] [])) t
    refine XS.aloadN X0.here hx rfl (hb hby d2_0) rfl rfl ?_
    show Steps p.tables e below (s₁.setTop (mkF m 1 #[.val (.ref aC), .val .null, .unset] [(.ref aC)])) t
    refine XS.astoreN X0.here hx rfl (hb hby d2_1) rfl rfl (l' := #[.val (.ref aC), .val .null, .val (.ref aC)]) rfl ?_
    show Steps p.tables e below (s₁.setTop (mkF m 2 #[.val (.ref aC), .val .null, .val (.ref aC)] [])) t
    refine XS.aloadN X0.here hx rfl (hb hby d2_2) rfl rfl ?_
    exact k
  refine OFin.go S1 ?_
  refine OFin.go (fun t k => ?_ : ∀ t, Steps p.tables e below (s₁.setTop (mkF m 6 #[.val (.ref aC), .val .null, .val (.ref aC)] [])) t → Steps p.tables e below (s₁.setTop (mkF m 3 #[.val (.ref aC), .val .null, .val (.ref aC)] [(.ref aC)])) t) ?_
  · show Steps p.tables e below (s₁.setTop (mkF m 3 #[.val (.ref aC), .val .null, .val (.ref aC)] [(.ref aC)])) t
    refine XS.ifnullNo X0.here hx rfl (hb hby d2_3) rfl ?_
    exact k
  have S2 : ∀ t, Steps p.tables e below (s₁.setTop (mkF m 8 #[.val (.ref aC), .val .null, .val (.ref aC)] [.null, (.ref aC)])) t → Steps p.tables e below (s₁.setTop (mkF m 6 #[.val (.ref aC), .val .null, .val (.ref aC)] [])) t := by
    intro t k
    show Steps p.tables e below (s₁.setTop (mkF m 6 #[.val (.ref aC), .val .null, .val (.ref aC)] [])) t
    refine XS.aloadN X0.here hx rfl (hb hby d2_6) rfl rfl ?_
    show Steps p.tables e below (s₁.setTop (mkF m 7 #[.val (.ref aC), .val .null, .val (.ref aC)] [(.ref aC)])) t
    refine XS.aloadN X0.here hx rfl (hb hby d2_7) rfl rfl ?_
    exact k
  refine OFin.go S2 ?_
  refine OFin.go (fun t k => ?_ : ∀ t, Steps p.tables e below (s₁.setTop (mkF m 11 #[.val (.ref aC), .val .null, .val (.ref aC)] [])) t → Steps p.tables e below (s₁.setTop (mkF m 8 #[.val (.ref aC), .val .null, .val (.ref aC)] [.null, (.ref aC)])) t) ?_
  · show Steps p.tables e below (s₁.setTop (mkF m 8 #[.val (.ref aC), .val .null, .val (.ref aC)] [.null, (.ref aC)])) t
    refine Jvm.RoadKit.acmp (g := (mkF m 8 #[.val (.ref aC), .val .null, .val (.ref aC)] [.null, (.ref aC)])) X0 hx rfl rfl rfl (pc0 := 8) (pc' := 11) (same := false) rfl (hb hby d2_8) rfl (decide_eq_false nofun) (by decide) (by decide) ?_
    exact k
  have S3 : ∀ t, Steps p.tables e below (s₁.setTop (mkF m 12 #[.val (.ref aC), .val .null, .val (.ref aC)] [(.ref aC)])) t → Steps p.tables e below (s₁.setTop (mkF m 11 #[.val (.ref aC), .val .null, .val (.ref aC)] [])) t := by
    intro t k
    show Steps p.tables e below (s₁.setTop (mkF m 11 #[.val (.ref aC), .val .null, .val (.ref aC)] [])) t
    refine XS.aloadN X0.here hx rfl (hb hby d2_11) rfl rfl ?_
    exact k
  refine OFin.go S3 ?_
  obtain ⟨T4, X4, e4, st4⟩ := getF X0 hx hZ hown (host := "") (Or.inl (hw _ (List.mem_of_getElem? (i := 15) rfl))) Via.refl e0 FaC (g := (mkF m 12 #[.val (.ref aC), .val .null, .val (.ref aC)] [(.ref aC)])) rfl rfl (hb hby d2_12)
  refine OFin.go st4 ?_
  show OFin p e below _ (T4.setTop (mkF m 15 #[.val (.ref aC), .val .null, .val (.ref aC)] [.null]))
  have S5 : ∀ t, Steps p.tables e below (T4.setTop (mkF m 3 #[.val (.ref aC), .val .null, .val .null] [.null])) t → Steps p.tables e below (T4.setTop (mkF m 15 #[.val (.ref aC), .val .null, .val (.ref aC)] [.null])) t := by
    intro t k
    show Steps p.tables e below (T4.setTop (mkF m 15 #[.val (.ref aC), .val .null, .val (.ref aC)] [.null])) t
    refine XS.astoreN X4.here hx rfl (hb hby d2_15) rfl rfl (l' := #[.val (.ref aC), .val .null, .val .null]) rfl ?_
    show Steps p.tables e below (T4.setTop (mkF m 16 #[.val (.ref aC), .val .null, .val .null] [])) t
    refine XS.goto X4.here hx rfl (pc0 := 16) (pc' := 2) rfl (hb hby d2_16) (by decide) (by decide) ?_
    show Steps p.tables e below (T4.setTop (mkF m 2 #[.val (.ref aC), .val .null, .val .null] [])) t
    refine XS.aloadN X4.here hx rfl (hb hby d2_2) rfl rfl ?_
    exact k
  refine OFin.go S5 ?_
  refine OFin.go (fun t k => ?_ : ∀ t, Steps p.tables e below (T4.setTop (mkF m 19 #[.val (.ref aC), .val .null, .val .null] [])) t → Steps p.tables e below (T4.setTop (mkF m 3 #[.val (.ref aC), .val .null, .val .null] [.null])) t) ?_
  · show Steps p.tables e below (T4.setTop (mkF m 3 #[.val (.ref aC), .val .null, .val .null] [.null])) t
    refine XS.ifnullYes X4.here hx rfl (pc0 := 3) (pc' := 19) rfl (hb hby d2_3) rfl (by decide) (by decide) ?_
    exact k
  have S6 : ∀ t, Steps p.tables e below (T4.setTop (mkF m 20 #[.val (.ref aC), .val .null, .val .null] [.null])) t → Steps p.tables e below (T4.setTop (mkF m 19 #[.val (.ref aC), .val .null, .val .null] [])) t := by
    intro t k
    show Steps p.tables e below (T4.setTop (mkF m 19 #[.val (.ref aC), .val .null, .val .null] [])) t
    refine XS.aloadN X4.here hx rfl (hb hby d2_19) rfl rfl ?_
    exact k
  refine OFin.go S6 ?_
  refine OFin.go (fun t k => ?_ : ∀ t, Steps p.tables e below (T4.setTop (mkF m 27 #[.val (.ref aC), .val .null, .val .null] [])) t → Steps p.tables e below (T4.setTop (mkF m 20 #[.val (.ref aC), .val .null, .val .null] [.null])) t) ?_
  · show Steps p.tables e below (T4.setTop (mkF m 20 #[.val (.ref aC), .val .null, .val .null] [.null])) t
    refine XS.ifnullYes X4.here hx rfl (pc0 := 20) (pc' := 27) rfl (hb hby d2_20) rfl (by decide) (by decide) ?_
    exact k
  have S7 : ∀ t, Steps p.tables e below (T4.setTop (mkF m 28 #[.val (.ref aC), .val .null, .val .null] [(.int (0 : Int32))])) t → Steps p.tables e below (T4.setTop (mkF m 27 #[.val (.ref aC), .val .null, .val .null] [])) t := by
    intro t k
    show Steps p.tables e below (T4.setTop (mkF m 27 #[.val (.ref aC), .val .null, .val .null] [])) t
    refine XS.iconst X4.here hx rfl (hb hby d2_27) ?_
    exact k
  refine OFin.go S7 ?_
  exact finZ X4 hx Bd.notSynchronized (t := .boolean) Bd.returns (by simp) (hb hby d2_28) rfl (by decide) (by decide) (⟨rfl, N0, e4⟩)
theorem ef_rm2_1_0 (m : MethodId) (aS : Addr) (aC : Addr) : entryFrame m #[(.ref aS), (.ref aC)] 3 = mkF m 0 #[.val (.ref aS), .val (.ref aC), .unset] [] := by first | (simp [entryFrame, mkF, argsToLocals, Value.category]; done) | rfl
def Q_rm2_1_0 (Z : State)  (aC aS aT aA : Addr) (h0 : Heap) (n0 : Nat) (v : Option Value) (h : Heap) (L : List Loc) : Prop := v = some (.int (1 : Int32)) ∧ Fr n0 L ∧ h = h0
set_option maxRecDepth 65536 in
set_option maxHeartbeats 40000000 in
theorem rm2_1_0 (l : Launch) (Z : State) (a0 : Array Value) (hw : ∀ d ∈ tables_1, d.before a0 Z = true) (ws : List Jvm.Cond)  (aC aS aT aA : Addr) (h0 : Heap) (n0 : Nat) (Z0 : n0 ≤ h0.size) (FaC : Fld Z h0 aC "com/example/stowage/stowage/ip/Profile" "base" "Lcom/example/stowage/stowage/ip/Profile;" .null) (FaS : Fld Z h0 aS "com/example/stowage/stowage/ip/Profile" "base" "Lcom/example/stowage/stowage/ip/Profile;" (.ref aC)) (FaT : Fld Z h0 aT "com/example/stowage/stowage/ip/Profile" "base" "Lcom/example/stowage/stowage/ip/Profile;" (.ref aS)) (FaA : Fld Z h0 aA "com/example/stowage/stowage/ip/Profile" "base" "Lcom/example/stowage/stowage/ip/Profile;" (.ref aC)) (naCaS : aC ≠ aS) (naCaT : aC ≠ aT) (naCaA : aC ≠ aA) (naSaT : aS ≠ aT) (naSaA : aS ≠ aA) (naTaA : aT ≠ aA) :
    MetFree l (⟨"com/example/stowage/stowage/ip/Profile", "follows", "(Lcom/example/stowage/stowage/ip/Profile;)Z"⟩ : MethodName) (head1 (Jvm.Cond.code (⟨"com/example/stowage/stowage/ip/Profile", "follows", "(Lcom/example/stowage/stowage/ip/Profile;)Z"⟩ : MethodName) prog_149_method_9_code 3 (some .boolean) :: ws) ({ frames := 0, cells := 0, slots := 0, locals := 0 } : Room)) (fun a U => a = #[(.ref aS), (.ref aC)] ∧ Z.Warmed39 U.vm ∧ U.heap = h0) (fun _ _ _ _ _ => True) (fun _ U o U' => ∃ v L, o = .returned v ∧ (Q_rm2_1_0 Z aC aS aT aA h0 n0) v U'.heap L ∧ FrameEnd U o U' L ({ frames := 0, cells := 0, slots := 0, locals := 0 } : Room).cells ({ frames := 0, cells := 0, slots := 0, locals := 0 } : Room).slots) := by
  refine MetFree.of_bodySF (plainFor_of_name pn_1) hisR ?_
  intro p e s m args below meth c s₁ Bd hml0 hP hK
  obtain ⟨rfl, hZ, hh⟩ := hP
  have hx := Bd.exec
  have hby := Bd.bytes
  have hml : c.maxLocals = 3 := hml0
  have hown : s.vm.findClass "com/example/stowage/stowage/ip/Profile" = some m.cls := findClass_of_methodNamed Bd.named
  have hnm := (name_of_methodNamed Bd.named Bd.method).1
  have X0 : Stand p l e ({ frames := 0, cells := 0, slots := 0, locals := 0 } : Room) s m #[(.ref aS), (.ref aC)] below meth c s₁ [] 0 0 := Stand.of_body Bd
  have e0 : s₁.heap = h0 := by rw [← hh, Bd.state]; rfl
  have N0 := Fr.nil n0
  show OFin p e below (ORet (Q_rm2_1_0 Z aC aS aT aA h0 n0) s ({ frames := 0, cells := 0, slots := 0, locals := 0 } : Room).cells ({ frames := 0, cells := 0, slots := 0, locals := 0 } : Room).slots) (s₁.setTop (entryFrame m #[(.ref aS), (.ref aC)] 3))
  refine OFin.go (fun t k => castTop (ef_rm2_1_0 m aS aC) k) ?_
  show OFin p e below (ORet (Q_rm2_1_0 Z aC aS aT aA h0 n0) s ({ frames := 0, cells := 0, slots := 0, locals := 0 } : Room).cells ({ frames := 0, cells := 0, slots := 0, locals := 0 } : Room).slots) (s₁.setTop (mkF m 0 #[.val (.ref aS), .val (.ref aC), .unset] []))
  have S1 : ∀ t, Steps p.tables e below (s₁.setTop (mkF m 3 #[.val (.ref aS), .val (.ref aC), .val (.ref aS)] [(.ref aS)])) t → Steps p.tables e below (s₁.setTop (mkF m 0 #[.val (.ref aS), .val (.ref aC), .unset] [])) t := by
    intro t k
    show Steps p.tables e below (s₁.setTop (mkF m 0 #[.val (.ref aS), .val (.ref aC), .unset] [])) t
    refine XS.aloadN X0.here hx rfl (hb hby d2_0) rfl rfl ?_
    show Steps p.tables e below (s₁.setTop (mkF m 1 #[.val (.ref aS), .val (.ref aC), .unset] [(.ref aS)])) t
    refine XS.astoreN X0.here hx rfl (hb hby d2_1) rfl rfl (l' := #[.val (.ref aS), .val (.ref aC), .val (.ref aS)]) rfl ?_
    show Steps p.tables e below (s₁.setTop (mkF m 2 #[.val (.ref aS), .val (.ref aC), .val (.ref aS)] [])) t
    refine XS.aloadN X0.here hx rfl (hb hby d2_2) rfl rfl ?_
    exact k
  refine OFin.go S1 ?_
  refine OFin.go (fun t k => ?_ : ∀ t, Steps p.tables e below (s₁.setTop (mkF m 6 #[.val (.ref aS), .val (.ref aC), .val (.ref aS)] [])) t → Steps p.tables e below (s₁.setTop (mkF m 3 #[.val (.ref aS), .val (.ref aC), .val (.ref aS)] [(.ref aS)])) t) ?_
  · show Steps p.tables e below (s₁.setTop (mkF m 3 #[.val (.ref aS), .val (.ref aC), .val (.ref aS)] [(.ref aS)])) t
    refine XS.ifnullNo X0.here hx rfl (hb hby d2_3) rfl ?_
    exact k
  have S2 : ∀ t, Steps p.tables e below (s₁.setTop (mkF m 8 #[.val (.ref aS), .val (.ref aC), .val (.ref aS)] [(.ref aC), (.ref aS)])) t → Steps p.tables e below (s₁.setTop (mkF m 6 #[.val (.ref aS), .val (.ref aC), .val (.ref aS)] [])) t := by
    intro t k
    show Steps p.tables e below (s₁.setTop (mkF m 6 #[.val (.ref aS), .val (.ref aC), .val (.ref aS)] [])) t
    refine XS.aloadN X0.here hx rfl (hb hby d2_6) rfl rfl ?_
    show Steps p.tables e below (s₁.setTop (mkF m 7 #[.val (.ref aS), .val (.ref aC), .val (.ref aS)] [(.ref aS)])) t
    refine XS.aloadN X0.here hx rfl (hb hby d2_7) rfl rfl ?_
    exact k
  refine OFin.go S2 ?_
  refine OFin.go (fun t k => ?_ : ∀ t, Steps p.tables e below (s₁.setTop (mkF m 11 #[.val (.ref aS), .val (.ref aC), .val (.ref aS)] [])) t → Steps p.tables e below (s₁.setTop (mkF m 8 #[.val (.ref aS), .val (.ref aC), .val (.ref aS)] [(.ref aC), (.ref aS)])) t) ?_
  · show Steps p.tables e below (s₁.setTop (mkF m 8 #[.val (.ref aS), .val (.ref aC), .val (.ref aS)] [(.ref aC), (.ref aS)])) t
    refine Jvm.RoadKit.acmp (g := (mkF m 8 #[.val (.ref aS), .val (.ref aC), .val (.ref aS)] [(.ref aC), (.ref aS)])) X0 hx rfl rfl rfl (pc0 := 8) (pc' := 11) (same := false) rfl (hb hby d2_8) rfl (decide_eq_false fun q => (Ne.symm naCaS) (Value.ref.inj q)) (by decide) (by decide) ?_
    exact k
  have S3 : ∀ t, Steps p.tables e below (s₁.setTop (mkF m 12 #[.val (.ref aS), .val (.ref aC), .val (.ref aS)] [(.ref aS)])) t → Steps p.tables e below (s₁.setTop (mkF m 11 #[.val (.ref aS), .val (.ref aC), .val (.ref aS)] [])) t := by
    intro t k
    show Steps p.tables e below (s₁.setTop (mkF m 11 #[.val (.ref aS), .val (.ref aC), .val (.ref aS)] [])) t
    refine XS.aloadN X0.here hx rfl (hb hby d2_11) rfl rfl ?_
    exact k
  refine OFin.go S3 ?_
  obtain ⟨T4, X4, e4, st4⟩ := getF X0 hx hZ hown (host := "") (Or.inl (hw _ (List.mem_of_getElem? (i := 15) rfl))) Via.refl e0 FaS (g := (mkF m 12 #[.val (.ref aS), .val (.ref aC), .val (.ref aS)] [(.ref aS)])) rfl rfl (hb hby d2_12)
  refine OFin.go st4 ?_
  show OFin p e below _ (T4.setTop (mkF m 15 #[.val (.ref aS), .val (.ref aC), .val (.ref aS)] [(.ref aC)]))
  have S5 : ∀ t, Steps p.tables e below (T4.setTop (mkF m 3 #[.val (.ref aS), .val (.ref aC), .val (.ref aC)] [(.ref aC)])) t → Steps p.tables e below (T4.setTop (mkF m 15 #[.val (.ref aS), .val (.ref aC), .val (.ref aS)] [(.ref aC)])) t := by
    intro t k
    show Steps p.tables e below (T4.setTop (mkF m 15 #[.val (.ref aS), .val (.ref aC), .val (.ref aS)] [(.ref aC)])) t
    refine XS.astoreN X4.here hx rfl (hb hby d2_15) rfl rfl (l' := #[.val (.ref aS), .val (.ref aC), .val (.ref aC)]) rfl ?_
    show Steps p.tables e below (T4.setTop (mkF m 16 #[.val (.ref aS), .val (.ref aC), .val (.ref aC)] [])) t
    refine XS.goto X4.here hx rfl (pc0 := 16) (pc' := 2) rfl (hb hby d2_16) (by decide) (by decide) ?_
    show Steps p.tables e below (T4.setTop (mkF m 2 #[.val (.ref aS), .val (.ref aC), .val (.ref aC)] [])) t
    refine XS.aloadN X4.here hx rfl (hb hby d2_2) rfl rfl ?_
    exact k
  refine OFin.go S5 ?_
  refine OFin.go (fun t k => ?_ : ∀ t, Steps p.tables e below (T4.setTop (mkF m 6 #[.val (.ref aS), .val (.ref aC), .val (.ref aC)] [])) t → Steps p.tables e below (T4.setTop (mkF m 3 #[.val (.ref aS), .val (.ref aC), .val (.ref aC)] [(.ref aC)])) t) ?_
  · show Steps p.tables e below (T4.setTop (mkF m 3 #[.val (.ref aS), .val (.ref aC), .val (.ref aC)] [(.ref aC)])) t
    refine XS.ifnullNo X4.here hx rfl (hb hby d2_3) rfl ?_
    exact k
  have S6 : ∀ t, Steps p.tables e below (T4.setTop (mkF m 8 #[.val (.ref aS), .val (.ref aC), .val (.ref aC)] [(.ref aC), (.ref aC)])) t → Steps p.tables e below (T4.setTop (mkF m 6 #[.val (.ref aS), .val (.ref aC), .val (.ref aC)] [])) t := by
    intro t k
    show Steps p.tables e below (T4.setTop (mkF m 6 #[.val (.ref aS), .val (.ref aC), .val (.ref aC)] [])) t
    refine XS.aloadN X4.here hx rfl (hb hby d2_6) rfl rfl ?_
    show Steps p.tables e below (T4.setTop (mkF m 7 #[.val (.ref aS), .val (.ref aC), .val (.ref aC)] [(.ref aC)])) t
    refine XS.aloadN X4.here hx rfl (hb hby d2_7) rfl rfl ?_
    exact k
  refine OFin.go S6 ?_
  refine OFin.go (fun t k => ?_ : ∀ t, Steps p.tables e below (T4.setTop (mkF m 19 #[.val (.ref aS), .val (.ref aC), .val (.ref aC)] [])) t → Steps p.tables e below (T4.setTop (mkF m 8 #[.val (.ref aS), .val (.ref aC), .val (.ref aC)] [(.ref aC), (.ref aC)])) t) ?_
  · show Steps p.tables e below (T4.setTop (mkF m 8 #[.val (.ref aS), .val (.ref aC), .val (.ref aC)] [(.ref aC), (.ref aC)])) t
    refine Jvm.RoadKit.acmp (g := (mkF m 8 #[.val (.ref aS), .val (.ref aC), .val (.ref aC)] [(.ref aC), (.ref aC)])) X4 hx rfl rfl rfl (pc0 := 8) (pc' := 19) (same := true) rfl (hb hby d2_8) rfl (decide_eq_true rfl) (by decide) (by decide) ?_
    exact k
  have S7 : ∀ t, Steps p.tables e below (T4.setTop (mkF m 20 #[.val (.ref aS), .val (.ref aC), .val (.ref aC)] [(.ref aC)])) t → Steps p.tables e below (T4.setTop (mkF m 19 #[.val (.ref aS), .val (.ref aC), .val (.ref aC)] [])) t := by
    intro t k
    show Steps p.tables e below (T4.setTop (mkF m 19 #[.val (.ref aS), .val (.ref aC), .val (.ref aC)] [])) t
    refine XS.aloadN X4.here hx rfl (hb hby d2_19) rfl rfl ?_
    exact k
  refine OFin.go S7 ?_
  refine OFin.go (fun t k => ?_ : ∀ t, Steps p.tables e below (T4.setTop (mkF m 23 #[.val (.ref aS), .val (.ref aC), .val (.ref aC)] [])) t → Steps p.tables e below (T4.setTop (mkF m 20 #[.val (.ref aS), .val (.ref aC), .val (.ref aC)] [(.ref aC)])) t) ?_
  · show Steps p.tables e below (T4.setTop (mkF m 20 #[.val (.ref aS), .val (.ref aC), .val (.ref aC)] [(.ref aC)])) t
    refine XS.ifnullNo X4.here hx rfl (hb hby d2_20) rfl ?_
    exact k
  have S8 : ∀ t, Steps p.tables e below (T4.setTop (mkF m 28 #[.val (.ref aS), .val (.ref aC), .val (.ref aC)] [(.int (1 : Int32))])) t → Steps p.tables e below (T4.setTop (mkF m 23 #[.val (.ref aS), .val (.ref aC), .val (.ref aC)] [])) t := by
    intro t k
    show Steps p.tables e below (T4.setTop (mkF m 23 #[.val (.ref aS), .val (.ref aC), .val (.ref aC)] [])) t
    refine XS.iconst X4.here hx rfl (hb hby d2_23) ?_
    show Steps p.tables e below (T4.setTop (mkF m 24 #[.val (.ref aS), .val (.ref aC), .val (.ref aC)] [(.int (1 : Int32))])) t
    refine XS.goto X4.here hx rfl (pc0 := 24) (pc' := 28) rfl (hb hby d2_24) (by decide) (by decide) ?_
    exact k
  refine OFin.go S8 ?_
  exact finZ X4 hx Bd.notSynchronized (t := .boolean) Bd.returns (by simp) (hb hby d2_28) rfl (by decide) (by decide) (⟨rfl, N0, e4⟩)
theorem ef_rm2_1_1 (m : MethodId) (aS : Addr) : entryFrame m #[(.ref aS), (.ref aS)] 3 = mkF m 0 #[.val (.ref aS), .val (.ref aS), .unset] [] := by first | (simp [entryFrame, mkF, argsToLocals, Value.category]; done) | rfl
def Q_rm2_1_1 (Z : State)  (aC aS aT aA : Addr) (h0 : Heap) (n0 : Nat) (v : Option Value) (h : Heap) (L : List Loc) : Prop := v = some (.int (1 : Int32)) ∧ Fr n0 L ∧ h = h0
set_option maxRecDepth 65536 in
set_option maxHeartbeats 40000000 in
theorem rm2_1_1 (l : Launch) (Z : State) (a0 : Array Value) (hw : ∀ d ∈ tables_1, d.before a0 Z = true) (ws : List Jvm.Cond)  (aC aS aT aA : Addr) (h0 : Heap) (n0 : Nat) (Z0 : n0 ≤ h0.size) (FaC : Fld Z h0 aC "com/example/stowage/stowage/ip/Profile" "base" "Lcom/example/stowage/stowage/ip/Profile;" .null) (FaS : Fld Z h0 aS "com/example/stowage/stowage/ip/Profile" "base" "Lcom/example/stowage/stowage/ip/Profile;" (.ref aC)) (FaT : Fld Z h0 aT "com/example/stowage/stowage/ip/Profile" "base" "Lcom/example/stowage/stowage/ip/Profile;" (.ref aS)) (FaA : Fld Z h0 aA "com/example/stowage/stowage/ip/Profile" "base" "Lcom/example/stowage/stowage/ip/Profile;" (.ref aC)) (naCaS : aC ≠ aS) (naCaT : aC ≠ aT) (naCaA : aC ≠ aA) (naSaT : aS ≠ aT) (naSaA : aS ≠ aA) (naTaA : aT ≠ aA) :
    MetFree l (⟨"com/example/stowage/stowage/ip/Profile", "follows", "(Lcom/example/stowage/stowage/ip/Profile;)Z"⟩ : MethodName) (head1 (Jvm.Cond.code (⟨"com/example/stowage/stowage/ip/Profile", "follows", "(Lcom/example/stowage/stowage/ip/Profile;)Z"⟩ : MethodName) prog_149_method_9_code 3 (some .boolean) :: ws) ({ frames := 0, cells := 0, slots := 0, locals := 0 } : Room)) (fun a U => a = #[(.ref aS), (.ref aS)] ∧ Z.Warmed39 U.vm ∧ U.heap = h0) (fun _ _ _ _ _ => True) (fun _ U o U' => ∃ v L, o = .returned v ∧ (Q_rm2_1_1 Z aC aS aT aA h0 n0) v U'.heap L ∧ FrameEnd U o U' L ({ frames := 0, cells := 0, slots := 0, locals := 0 } : Room).cells ({ frames := 0, cells := 0, slots := 0, locals := 0 } : Room).slots) := by
  refine MetFree.of_bodySF (plainFor_of_name pn_1) hisR ?_
  intro p e s m args below meth c s₁ Bd hml0 hP hK
  obtain ⟨rfl, hZ, hh⟩ := hP
  have hx := Bd.exec
  have hby := Bd.bytes
  have hml : c.maxLocals = 3 := hml0
  have hown : s.vm.findClass "com/example/stowage/stowage/ip/Profile" = some m.cls := findClass_of_methodNamed Bd.named
  have hnm := (name_of_methodNamed Bd.named Bd.method).1
  have X0 : Stand p l e ({ frames := 0, cells := 0, slots := 0, locals := 0 } : Room) s m #[(.ref aS), (.ref aS)] below meth c s₁ [] 0 0 := Stand.of_body Bd
  have e0 : s₁.heap = h0 := by rw [← hh, Bd.state]; rfl
  have N0 := Fr.nil n0
  show OFin p e below (ORet (Q_rm2_1_1 Z aC aS aT aA h0 n0) s ({ frames := 0, cells := 0, slots := 0, locals := 0 } : Room).cells ({ frames := 0, cells := 0, slots := 0, locals := 0 } : Room).slots) (s₁.setTop (entryFrame m #[(.ref aS), (.ref aS)] 3))
  refine OFin.go (fun t k => castTop (ef_rm2_1_1 m aS) k) ?_
  show OFin p e below (ORet (Q_rm2_1_1 Z aC aS aT aA h0 n0) s ({ frames := 0, cells := 0, slots := 0, locals := 0 } : Room).cells ({ frames := 0, cells := 0, slots := 0, locals := 0 } : Room).slots) (s₁.setTop (mkF m 0 #[.val (.ref aS), .val (.ref aS), .unset] []))
  have S1 : ∀ t, Steps p.tables e below (s₁.setTop (mkF m 3 #[.val (.ref aS), .val (.ref aS), .val (.ref aS)] [(.ref aS)])) t → Steps p.tables e below (s₁.setTop (mkF m 0 #[.val (.ref aS), .val (.ref aS), .unset] [])) t := by
    intro t k
    show Steps p.tables e below (s₁.setTop (mkF m 0 #[.val (.ref aS), .val (.ref aS), .unset] [])) t
    refine XS.aloadN X0.here hx rfl (hb hby d2_0) rfl rfl ?_
    show Steps p.tables e below (s₁.setTop (mkF m 1 #[.val (.ref aS), .val (.ref aS), .unset] [(.ref aS)])) t
    refine XS.astoreN X0.here hx rfl (hb hby d2_1) rfl rfl (l' := #[.val (.ref aS), .val (.ref aS), .val (.ref aS)]) rfl ?_
    show Steps p.tables e below (s₁.setTop (mkF m 2 #[.val (.ref aS), .val (.ref aS), .val (.ref aS)] [])) t
    refine XS.aloadN X0.here hx rfl (hb hby d2_2) rfl rfl ?_
    exact k
  refine OFin.go S1 ?_
  refine OFin.go (fun t k => ?_ : ∀ t, Steps p.tables e below (s₁.setTop (mkF m 6 #[.val (.ref aS), .val (.ref aS), .val (.ref aS)] [])) t → Steps p.tables e below (s₁.setTop (mkF m 3 #[.val (.ref aS), .val (.ref aS), .val (.ref aS)] [(.ref aS)])) t) ?_
  · show Steps p.tables e below (s₁.setTop (mkF m 3 #[.val (.ref aS), .val (.ref aS), .val (.ref aS)] [(.ref aS)])) t
    refine XS.ifnullNo X0.here hx rfl (hb hby d2_3) rfl ?_
    exact k
  have S2 : ∀ t, Steps p.tables e below (s₁.setTop (mkF m 8 #[.val (.ref aS), .val (.ref aS), .val (.ref aS)] [(.ref aS), (.ref aS)])) t → Steps p.tables e below (s₁.setTop (mkF m 6 #[.val (.ref aS), .val (.ref aS), .val (.ref aS)] [])) t := by
    intro t k
    show Steps p.tables e below (s₁.setTop (mkF m 6 #[.val (.ref aS), .val (.ref aS), .val (.ref aS)] [])) t
    refine XS.aloadN X0.here hx rfl (hb hby d2_6) rfl rfl ?_
    show Steps p.tables e below (s₁.setTop (mkF m 7 #[.val (.ref aS), .val (.ref aS), .val (.ref aS)] [(.ref aS)])) t
    refine XS.aloadN X0.here hx rfl (hb hby d2_7) rfl rfl ?_
    exact k
  refine OFin.go S2 ?_
  refine OFin.go (fun t k => ?_ : ∀ t, Steps p.tables e below (s₁.setTop (mkF m 19 #[.val (.ref aS), .val (.ref aS), .val (.ref aS)] [])) t → Steps p.tables e below (s₁.setTop (mkF m 8 #[.val (.ref aS), .val (.ref aS), .val (.ref aS)] [(.ref aS), (.ref aS)])) t) ?_
  · show Steps p.tables e below (s₁.setTop (mkF m 8 #[.val (.ref aS), .val (.ref aS), .val (.ref aS)] [(.ref aS), (.ref aS)])) t
    refine Jvm.RoadKit.acmp (g := (mkF m 8 #[.val (.ref aS), .val (.ref aS), .val (.ref aS)] [(.ref aS), (.ref aS)])) X0 hx rfl rfl rfl (pc0 := 8) (pc' := 19) (same := true) rfl (hb hby d2_8) rfl (decide_eq_true rfl) (by decide) (by decide) ?_
    exact k
  have S3 : ∀ t, Steps p.tables e below (s₁.setTop (mkF m 20 #[.val (.ref aS), .val (.ref aS), .val (.ref aS)] [(.ref aS)])) t → Steps p.tables e below (s₁.setTop (mkF m 19 #[.val (.ref aS), .val (.ref aS), .val (.ref aS)] [])) t := by
    intro t k
    show Steps p.tables e below (s₁.setTop (mkF m 19 #[.val (.ref aS), .val (.ref aS), .val (.ref aS)] [])) t
    refine XS.aloadN X0.here hx rfl (hb hby d2_19) rfl rfl ?_
    exact k
  refine OFin.go S3 ?_
  refine OFin.go (fun t k => ?_ : ∀ t, Steps p.tables e below (s₁.setTop (mkF m 23 #[.val (.ref aS), .val (.ref aS), .val (.ref aS)] [])) t → Steps p.tables e below (s₁.setTop (mkF m 20 #[.val (.ref aS), .val (.ref aS), .val (.ref aS)] [(.ref aS)])) t) ?_
  · show Steps p.tables e below (s₁.setTop (mkF m 20 #[.val (.ref aS), .val (.ref aS), .val (.ref aS)] [(.ref aS)])) t
    refine XS.ifnullNo X0.here hx rfl (hb hby d2_20) rfl ?_
    exact k
  have S4 : ∀ t, Steps p.tables e below (s₁.setTop (mkF m 28 #[.val (.ref aS), .val (.ref aS), .val (.ref aS)] [(.int (1 : Int32))])) t → Steps p.tables e below (s₁.setTop (mkF m 23 #[.val (.ref aS), .val (.ref aS), .val (.ref aS)] [])) t := by
    intro t k
    show Steps p.tables e below (s₁.setTop (mkF m 23 #[.val (.ref aS), .val (.ref aS), .val (.ref aS)] [])) t
    refine XS.iconst X0.here hx rfl (hb hby d2_23) ?_
    show Steps p.tables e below (s₁.setTop (mkF m 24 #[.val (.ref aS), .val (.ref aS), .val (.ref aS)] [(.int (1 : Int32))])) t
    refine XS.goto X0.here hx rfl (pc0 := 24) (pc' := 28) rfl (hb hby d2_24) (by decide) (by decide) ?_
    exact k
  refine OFin.go S4 ?_
  exact finZ X0 hx Bd.notSynchronized (t := .boolean) Bd.returns (by simp) (hb hby d2_28) rfl (by decide) (by decide) (⟨rfl, N0, e0⟩)
theorem ef_rm2_1_2 (m : MethodId) (aS : Addr) (aT : Addr) : entryFrame m #[(.ref aS), (.ref aT)] 3 = mkF m 0 #[.val (.ref aS), .val (.ref aT), .unset] [] := by first | (simp [entryFrame, mkF, argsToLocals, Value.category]; done) | rfl
def Q_rm2_1_2 (Z : State)  (aC aS aT aA : Addr) (h0 : Heap) (n0 : Nat) (v : Option Value) (h : Heap) (L : List Loc) : Prop := v = some (.int (0 : Int32)) ∧ Fr n0 L ∧ h = h0
set_option maxRecDepth 65536 in
set_option maxHeartbeats 40000000 in
theorem rm2_1_2 (l : Launch) (Z : State) (a0 : Array Value) (hw : ∀ d ∈ tables_1, d.before a0 Z = true) (ws : List Jvm.Cond)  (aC aS aT aA : Addr) (h0 : Heap) (n0 : Nat) (Z0 : n0 ≤ h0.size) (FaC : Fld Z h0 aC "com/example/stowage/stowage/ip/Profile" "base" "Lcom/example/stowage/stowage/ip/Profile;" .null) (FaS : Fld Z h0 aS "com/example/stowage/stowage/ip/Profile" "base" "Lcom/example/stowage/stowage/ip/Profile;" (.ref aC)) (FaT : Fld Z h0 aT "com/example/stowage/stowage/ip/Profile" "base" "Lcom/example/stowage/stowage/ip/Profile;" (.ref aS)) (FaA : Fld Z h0 aA "com/example/stowage/stowage/ip/Profile" "base" "Lcom/example/stowage/stowage/ip/Profile;" (.ref aC)) (naCaS : aC ≠ aS) (naCaT : aC ≠ aT) (naCaA : aC ≠ aA) (naSaT : aS ≠ aT) (naSaA : aS ≠ aA) (naTaA : aT ≠ aA) :
    MetFree l (⟨"com/example/stowage/stowage/ip/Profile", "follows", "(Lcom/example/stowage/stowage/ip/Profile;)Z"⟩ : MethodName) (head1 (Jvm.Cond.code (⟨"com/example/stowage/stowage/ip/Profile", "follows", "(Lcom/example/stowage/stowage/ip/Profile;)Z"⟩ : MethodName) prog_149_method_9_code 3 (some .boolean) :: ws) ({ frames := 0, cells := 0, slots := 0, locals := 0 } : Room)) (fun a U => a = #[(.ref aS), (.ref aT)] ∧ Z.Warmed39 U.vm ∧ U.heap = h0) (fun _ _ _ _ _ => True) (fun _ U o U' => ∃ v L, o = .returned v ∧ (Q_rm2_1_2 Z aC aS aT aA h0 n0) v U'.heap L ∧ FrameEnd U o U' L ({ frames := 0, cells := 0, slots := 0, locals := 0 } : Room).cells ({ frames := 0, cells := 0, slots := 0, locals := 0 } : Room).slots) := by
  refine MetFree.of_bodySF (plainFor_of_name pn_1) hisR ?_
  intro p e s m args below meth c s₁ Bd hml0 hP hK
  obtain ⟨rfl, hZ, hh⟩ := hP
  have hx := Bd.exec
  have hby := Bd.bytes
  have hml : c.maxLocals = 3 := hml0
  have hown : s.vm.findClass "com/example/stowage/stowage/ip/Profile" = some m.cls := findClass_of_methodNamed Bd.named
  have hnm := (name_of_methodNamed Bd.named Bd.method).1
  have X0 : Stand p l e ({ frames := 0, cells := 0, slots := 0, locals := 0 } : Room) s m #[(.ref aS), (.ref aT)] below meth c s₁ [] 0 0 := Stand.of_body Bd
  have e0 : s₁.heap = h0 := by rw [← hh, Bd.state]; rfl
  have N0 := Fr.nil n0
  show OFin p e below (ORet (Q_rm2_1_2 Z aC aS aT aA h0 n0) s ({ frames := 0, cells := 0, slots := 0, locals := 0 } : Room).cells ({ frames := 0, cells := 0, slots := 0, locals := 0 } : Room).slots) (s₁.setTop (entryFrame m #[(.ref aS), (.ref aT)] 3))
  refine OFin.go (fun t k => castTop (ef_rm2_1_2 m aS aT) k) ?_
  show OFin p e below (ORet (Q_rm2_1_2 Z aC aS aT aA h0 n0) s ({ frames := 0, cells := 0, slots := 0, locals := 0 } : Room).cells ({ frames := 0, cells := 0, slots := 0, locals := 0 } : Room).slots) (s₁.setTop (mkF m 0 #[.val (.ref aS), .val (.ref aT), .unset] []))
  have S1 : ∀ t, Steps p.tables e below (s₁.setTop (mkF m 3 #[.val (.ref aS), .val (.ref aT), .val (.ref aS)] [(.ref aS)])) t → Steps p.tables e below (s₁.setTop (mkF m 0 #[.val (.ref aS), .val (.ref aT), .unset] [])) t := by
    intro t k
    show Steps p.tables e below (s₁.setTop (mkF m 0 #[.val (.ref aS), .val (.ref aT), .unset] [])) t
    refine XS.aloadN X0.here hx rfl (hb hby d2_0) rfl rfl ?_
    show Steps p.tables e below (s₁.setTop (mkF m 1 #[.val (.ref aS), .val (.ref aT), .unset] [(.ref aS)])) t
    refine XS.astoreN X0.here hx rfl (hb hby d2_1) rfl rfl (l' := #[.val (.ref aS), .val (.ref aT), .val (.ref aS)]) rfl ?_
    show Steps p.tables e below (s₁.setTop (mkF m 2 #[.val (.ref aS), .val (.ref aT), .val (.ref aS)] [])) t
    refine XS.aloadN X0.here hx rfl (hb hby d2_2) rfl rfl ?_
    exact k
  refine OFin.go S1 ?_
  refine OFin.go (fun t k => ?_ : ∀ t, Steps p.tables e below (s₁.setTop (mkF m 6 #[.val (.ref aS), .val (.ref aT), .val (.ref aS)] [])) t → Steps p.tables e below (s₁.setTop (mkF m 3 #[.val (.ref aS), .val (.ref aT), .val (.ref aS)] [(.ref aS)])) t) ?_
  · show Steps p.tables e below (s₁.setTop (mkF m 3 #[.val (.ref aS), .val (.ref aT), .val (.ref aS)] [(.ref aS)])) t
    refine XS.ifnullNo X0.here hx rfl (hb hby d2_3) rfl ?_
    exact k
  have S2 : ∀ t, Steps p.tables e below (s₁.setTop (mkF m 8 #[.val (.ref aS), .val (.ref aT), .val (.ref aS)] [(.ref aT), (.ref aS)])) t → Steps p.tables e below (s₁.setTop (mkF m 6 #[.val (.ref aS), .val (.ref aT), .val (.ref aS)] [])) t := by
    intro t k
    show Steps p.tables e below (s₁.setTop (mkF m 6 #[.val (.ref aS), .val (.ref aT), .val (.ref aS)] [])) t
    refine XS.aloadN X0.here hx rfl (hb hby d2_6) rfl rfl ?_
    show Steps p.tables e below (s₁.setTop (mkF m 7 #[.val (.ref aS), .val (.ref aT), .val (.ref aS)] [(.ref aS)])) t
    refine XS.aloadN X0.here hx rfl (hb hby d2_7) rfl rfl ?_
    exact k
  refine OFin.go S2 ?_
  refine OFin.go (fun t k => ?_ : ∀ t, Steps p.tables e below (s₁.setTop (mkF m 11 #[.val (.ref aS), .val (.ref aT), .val (.ref aS)] [])) t → Steps p.tables e below (s₁.setTop (mkF m 8 #[.val (.ref aS), .val (.ref aT), .val (.ref aS)] [(.ref aT), (.ref aS)])) t) ?_
  · show Steps p.tables e below (s₁.setTop (mkF m 8 #[.val (.ref aS), .val (.ref aT), .val (.ref aS)] [(.ref aT), (.ref aS)])) t
    refine Jvm.RoadKit.acmp (g := (mkF m 8 #[.val (.ref aS), .val (.ref aT), .val (.ref aS)] [(.ref aT), (.ref aS)])) X0 hx rfl rfl rfl (pc0 := 8) (pc' := 11) (same := false) rfl (hb hby d2_8) rfl (decide_eq_false fun q => naSaT (Value.ref.inj q)) (by decide) (by decide) ?_
    exact k
  have S3 : ∀ t, Steps p.tables e below (s₁.setTop (mkF m 12 #[.val (.ref aS), .val (.ref aT), .val (.ref aS)] [(.ref aS)])) t → Steps p.tables e below (s₁.setTop (mkF m 11 #[.val (.ref aS), .val (.ref aT), .val (.ref aS)] [])) t := by
    intro t k
    show Steps p.tables e below (s₁.setTop (mkF m 11 #[.val (.ref aS), .val (.ref aT), .val (.ref aS)] [])) t
    refine XS.aloadN X0.here hx rfl (hb hby d2_11) rfl rfl ?_
    exact k
  refine OFin.go S3 ?_
  obtain ⟨T4, X4, e4, st4⟩ := getF X0 hx hZ hown (host := "") (Or.inl (hw _ (List.mem_of_getElem? (i := 15) rfl))) Via.refl e0 FaS (g := (mkF m 12 #[.val (.ref aS), .val (.ref aT), .val (.ref aS)] [(.ref aS)])) rfl rfl (hb hby d2_12)
  refine OFin.go st4 ?_
  show OFin p e below _ (T4.setTop (mkF m 15 #[.val (.ref aS), .val (.ref aT), .val (.ref aS)] [(.ref aC)]))
  have S5 : ∀ t, Steps p.tables e below (T4.setTop (mkF m 3 #[.val (.ref aS), .val (.ref aT), .val (.ref aC)] [(.ref aC)])) t → Steps p.tables e below (T4.setTop (mkF m 15 #[.val (.ref aS), .val (.ref aT), .val (.ref aS)] [(.ref aC)])) t := by
    intro t k
    show Steps p.tables e below (T4.setTop (mkF m 15 #[.val (.ref aS), .val (.ref aT), .val (.ref aS)] [(.ref aC)])) t
    refine XS.astoreN X4.here hx rfl (hb hby d2_15) rfl rfl (l' := #[.val (.ref aS), .val (.ref aT), .val (.ref aC)]) rfl ?_
    show Steps p.tables e below (T4.setTop (mkF m 16 #[.val (.ref aS), .val (.ref aT), .val (.ref aC)] [])) t
    refine XS.goto X4.here hx rfl (pc0 := 16) (pc' := 2) rfl (hb hby d2_16) (by decide) (by decide) ?_
    show Steps p.tables e below (T4.setTop (mkF m 2 #[.val (.ref aS), .val (.ref aT), .val (.ref aC)] [])) t
    refine XS.aloadN X4.here hx rfl (hb hby d2_2) rfl rfl ?_
    exact k
  refine OFin.go S5 ?_
  refine OFin.go (fun t k => ?_ : ∀ t, Steps p.tables e below (T4.setTop (mkF m 6 #[.val (.ref aS), .val (.ref aT), .val (.ref aC)] [])) t → Steps p.tables e below (T4.setTop (mkF m 3 #[.val (.ref aS), .val (.ref aT), .val (.ref aC)] [(.ref aC)])) t) ?_
  · show Steps p.tables e below (T4.setTop (mkF m 3 #[.val (.ref aS), .val (.ref aT), .val (.ref aC)] [(.ref aC)])) t
    refine XS.ifnullNo X4.here hx rfl (hb hby d2_3) rfl ?_
    exact k
  have S6 : ∀ t, Steps p.tables e below (T4.setTop (mkF m 8 #[.val (.ref aS), .val (.ref aT), .val (.ref aC)] [(.ref aT), (.ref aC)])) t → Steps p.tables e below (T4.setTop (mkF m 6 #[.val (.ref aS), .val (.ref aT), .val (.ref aC)] [])) t := by
    intro t k
    show Steps p.tables e below (T4.setTop (mkF m 6 #[.val (.ref aS), .val (.ref aT), .val (.ref aC)] [])) t
    refine XS.aloadN X4.here hx rfl (hb hby d2_6) rfl rfl ?_
    show Steps p.tables e below (T4.setTop (mkF m 7 #[.val (.ref aS), .val (.ref aT), .val (.ref aC)] [(.ref aC)])) t
    refine XS.aloadN X4.here hx rfl (hb hby d2_7) rfl rfl ?_
    exact k
  refine OFin.go S6 ?_
  refine OFin.go (fun t k => ?_ : ∀ t, Steps p.tables e below (T4.setTop (mkF m 11 #[.val (.ref aS), .val (.ref aT), .val (.ref aC)] [])) t → Steps p.tables e below (T4.setTop (mkF m 8 #[.val (.ref aS), .val (.ref aT), .val (.ref aC)] [(.ref aT), (.ref aC)])) t) ?_
  · show Steps p.tables e below (T4.setTop (mkF m 8 #[.val (.ref aS), .val (.ref aT), .val (.ref aC)] [(.ref aT), (.ref aC)])) t
    refine Jvm.RoadKit.acmp (g := (mkF m 8 #[.val (.ref aS), .val (.ref aT), .val (.ref aC)] [(.ref aT), (.ref aC)])) X4 hx rfl rfl rfl (pc0 := 8) (pc' := 11) (same := false) rfl (hb hby d2_8) rfl (decide_eq_false fun q => naCaT (Value.ref.inj q)) (by decide) (by decide) ?_
    exact k
  have S7 : ∀ t, Steps p.tables e below (T4.setTop (mkF m 12 #[.val (.ref aS), .val (.ref aT), .val (.ref aC)] [(.ref aC)])) t → Steps p.tables e below (T4.setTop (mkF m 11 #[.val (.ref aS), .val (.ref aT), .val (.ref aC)] [])) t := by
    intro t k
    show Steps p.tables e below (T4.setTop (mkF m 11 #[.val (.ref aS), .val (.ref aT), .val (.ref aC)] [])) t
    refine XS.aloadN X4.here hx rfl (hb hby d2_11) rfl rfl ?_
    exact k
  refine OFin.go S7 ?_
  obtain ⟨T8, X8, e8, st8⟩ := getF X4 hx hZ hown (host := "") (Or.inl (hw _ (List.mem_of_getElem? (i := 15) rfl))) Via.refl e4 FaC (g := (mkF m 12 #[.val (.ref aS), .val (.ref aT), .val (.ref aC)] [(.ref aC)])) rfl rfl (hb hby d2_12)
  refine OFin.go st8 ?_
  show OFin p e below _ (T8.setTop (mkF m 15 #[.val (.ref aS), .val (.ref aT), .val (.ref aC)] [.null]))
  have S9 : ∀ t, Steps p.tables e below (T8.setTop (mkF m 3 #[.val (.ref aS), .val (.ref aT), .val .null] [.null])) t → Steps p.tables e below (T8.setTop (mkF m 15 #[.val (.ref aS), .val (.ref aT), .val (.ref aC)] [.null])) t := by
    intro t k
    show Steps p.tables e below (T8.setTop (mkF m 15 #[.val (.ref aS), .val (.ref aT), .val (.ref aC)] [.null])) t
    refine XS.astoreN X8.here hx rfl (hb hby d2_15) rfl rfl (l' := #[.val (.ref aS), .val (.ref aT), .val .null]) rfl ?_
    show Steps p.tables e below (T8.setTop (mkF m 16 #[.val (.ref aS), .val (.ref aT), .val .null] [])) t
    refine XS.goto X8.here hx rfl (pc0 := 16) (pc' := 2) rfl (hb hby d2_16) (by decide) (by decide) ?_
    show Steps p.tables e below (T8.setTop (mkF m 2 #[.val (.ref aS), .val (.ref aT), .val .null] [])) t
    refine XS.aloadN X8.here hx rfl (hb hby d2_2) rfl rfl ?_
    exact k
  refine OFin.go S9 ?_
  refine OFin.go (fun t k => ?_ : ∀ t, Steps p.tables e below (T8.setTop (mkF m 19 #[.val (.ref aS), .val (.ref aT), .val .null] [])) t → Steps p.tables e below (T8.setTop (mkF m 3 #[.val (.ref aS), .val (.ref aT), .val .null] [.null])) t) ?_
  · show Steps p.tables e below (T8.setTop (mkF m 3 #[.val (.ref aS), .val (.ref aT), .val .null] [.null])) t
    refine XS.ifnullYes X8.here hx rfl (pc0 := 3) (pc' := 19) rfl (hb hby d2_3) rfl (by decide) (by decide) ?_
    exact k
  have S10 : ∀ t, Steps p.tables e below (T8.setTop (mkF m 20 #[.val (.ref aS), .val (.ref aT), .val .null] [.null])) t → Steps p.tables e below (T8.setTop (mkF m 19 #[.val (.ref aS), .val (.ref aT), .val .null] [])) t := by
    intro t k
    show Steps p.tables e below (T8.setTop (mkF m 19 #[.val (.ref aS), .val (.ref aT), .val .null] [])) t
    refine XS.aloadN X8.here hx rfl (hb hby d2_19) rfl rfl ?_
    exact k
  refine OFin.go S10 ?_
  refine OFin.go (fun t k => ?_ : ∀ t, Steps p.tables e below (T8.setTop (mkF m 27 #[.val (.ref aS), .val (.ref aT), .val .null] [])) t → Steps p.tables e below (T8.setTop (mkF m 20 #[.val (.ref aS), .val (.ref aT), .val .null] [.null])) t) ?_
  · show Steps p.tables e below (T8.setTop (mkF m 20 #[.val (.ref aS), .val (.ref aT), .val .null] [.null])) t
    refine XS.ifnullYes X8.here hx rfl (pc0 := 20) (pc' := 27) rfl (hb hby d2_20) rfl (by decide) (by decide) ?_
    exact k
  have S11 : ∀ t, Steps p.tables e below (T8.setTop (mkF m 28 #[.val (.ref aS), .val (.ref aT), .val .null] [(.int (0 : Int32))])) t → Steps p.tables e below (T8.setTop (mkF m 27 #[.val (.ref aS), .val (.ref aT), .val .null] [])) t := by
    intro t k
    show Steps p.tables e below (T8.setTop (mkF m 27 #[.val (.ref aS), .val (.ref aT), .val .null] [])) t
    refine XS.iconst X8.here hx rfl (hb hby d2_27) ?_
    exact k
  refine OFin.go S11 ?_
  exact finZ X8 hx Bd.notSynchronized (t := .boolean) Bd.returns (by simp) (hb hby d2_28) rfl (by decide) (by decide) (⟨rfl, N0, e8⟩)
theorem ef_rm2_1_3 (m : MethodId) (aS : Addr) (aA : Addr) : entryFrame m #[(.ref aS), (.ref aA)] 3 = mkF m 0 #[.val (.ref aS), .val (.ref aA), .unset] [] := by first | (simp [entryFrame, mkF, argsToLocals, Value.category]; done) | rfl
def Q_rm2_1_3 (Z : State)  (aC aS aT aA : Addr) (h0 : Heap) (n0 : Nat) (v : Option Value) (h : Heap) (L : List Loc) : Prop := v = some (.int (0 : Int32)) ∧ Fr n0 L ∧ h = h0
set_option maxRecDepth 65536 in
set_option maxHeartbeats 40000000 in
theorem rm2_1_3 (l : Launch) (Z : State) (a0 : Array Value) (hw : ∀ d ∈ tables_1, d.before a0 Z = true) (ws : List Jvm.Cond)  (aC aS aT aA : Addr) (h0 : Heap) (n0 : Nat) (Z0 : n0 ≤ h0.size) (FaC : Fld Z h0 aC "com/example/stowage/stowage/ip/Profile" "base" "Lcom/example/stowage/stowage/ip/Profile;" .null) (FaS : Fld Z h0 aS "com/example/stowage/stowage/ip/Profile" "base" "Lcom/example/stowage/stowage/ip/Profile;" (.ref aC)) (FaT : Fld Z h0 aT "com/example/stowage/stowage/ip/Profile" "base" "Lcom/example/stowage/stowage/ip/Profile;" (.ref aS)) (FaA : Fld Z h0 aA "com/example/stowage/stowage/ip/Profile" "base" "Lcom/example/stowage/stowage/ip/Profile;" (.ref aC)) (naCaS : aC ≠ aS) (naCaT : aC ≠ aT) (naCaA : aC ≠ aA) (naSaT : aS ≠ aT) (naSaA : aS ≠ aA) (naTaA : aT ≠ aA) :
    MetFree l (⟨"com/example/stowage/stowage/ip/Profile", "follows", "(Lcom/example/stowage/stowage/ip/Profile;)Z"⟩ : MethodName) (head1 (Jvm.Cond.code (⟨"com/example/stowage/stowage/ip/Profile", "follows", "(Lcom/example/stowage/stowage/ip/Profile;)Z"⟩ : MethodName) prog_149_method_9_code 3 (some .boolean) :: ws) ({ frames := 0, cells := 0, slots := 0, locals := 0 } : Room)) (fun a U => a = #[(.ref aS), (.ref aA)] ∧ Z.Warmed39 U.vm ∧ U.heap = h0) (fun _ _ _ _ _ => True) (fun _ U o U' => ∃ v L, o = .returned v ∧ (Q_rm2_1_3 Z aC aS aT aA h0 n0) v U'.heap L ∧ FrameEnd U o U' L ({ frames := 0, cells := 0, slots := 0, locals := 0 } : Room).cells ({ frames := 0, cells := 0, slots := 0, locals := 0 } : Room).slots) := by
  refine MetFree.of_bodySF (plainFor_of_name pn_1) hisR ?_
  intro p e s m args below meth c s₁ Bd hml0 hP hK
  obtain ⟨rfl, hZ, hh⟩ := hP
  have hx := Bd.exec
  have hby := Bd.bytes
  have hml : c.maxLocals = 3 := hml0
  have hown : s.vm.findClass "com/example/stowage/stowage/ip/Profile" = some m.cls := findClass_of_methodNamed Bd.named
  have hnm := (name_of_methodNamed Bd.named Bd.method).1
  have X0 : Stand p l e ({ frames := 0, cells := 0, slots := 0, locals := 0 } : Room) s m #[(.ref aS), (.ref aA)] below meth c s₁ [] 0 0 := Stand.of_body Bd
  have e0 : s₁.heap = h0 := by rw [← hh, Bd.state]; rfl
  have N0 := Fr.nil n0
  show OFin p e below (ORet (Q_rm2_1_3 Z aC aS aT aA h0 n0) s ({ frames := 0, cells := 0, slots := 0, locals := 0 } : Room).cells ({ frames := 0, cells := 0, slots := 0, locals := 0 } : Room).slots) (s₁.setTop (entryFrame m #[(.ref aS), (.ref aA)] 3))
  refine OFin.go (fun t k => castTop (ef_rm2_1_3 m aS aA) k) ?_
  show OFin p e below (ORet (Q_rm2_1_3 Z aC aS aT aA h0 n0) s ({ frames := 0, cells := 0, slots := 0, locals := 0 } : Room).cells ({ frames := 0, cells := 0, slots := 0, locals := 0 } : Room).slots) (s₁.setTop (mkF m 0 #[.val (.ref aS), .val (.ref aA), .unset] []))
  have S1 : ∀ t, Steps p.tables e below (s₁.setTop (mkF m 3 #[.val (.ref aS), .val (.ref aA), .val (.ref aS)] [(.ref aS)])) t → Steps p.tables e below (s₁.setTop (mkF m 0 #[.val (.ref aS), .val (.ref aA), .unset] [])) t := by
    intro t k
    show Steps p.tables e below (s₁.setTop (mkF m 0 #[.val (.ref aS), .val (.ref aA), .unset] [])) t
    refine XS.aloadN X0.here hx rfl (hb hby d2_0) rfl rfl ?_
    show Steps p.tables e below (s₁.setTop (mkF m 1 #[.val (.ref aS), .val (.ref aA), .unset] [(.ref aS)])) t
    refine XS.astoreN X0.here hx rfl (hb hby d2_1) rfl rfl (l' := #[.val (.ref aS), .val (.ref aA), .val (.ref aS)]) rfl ?_
    show Steps p.tables e below (s₁.setTop (mkF m 2 #[.val (.ref aS), .val (.ref aA), .val (.ref aS)] [])) t
    refine XS.aloadN X0.here hx rfl (hb hby d2_2) rfl rfl ?_
    exact k
  refine OFin.go S1 ?_
  refine OFin.go (fun t k => ?_ : ∀ t, Steps p.tables e below (s₁.setTop (mkF m 6 #[.val (.ref aS), .val (.ref aA), .val (.ref aS)] [])) t → Steps p.tables e below (s₁.setTop (mkF m 3 #[.val (.ref aS), .val (.ref aA), .val (.ref aS)] [(.ref aS)])) t) ?_
  · show Steps p.tables e below (s₁.setTop (mkF m 3 #[.val (.ref aS), .val (.ref aA), .val (.ref aS)] [(.ref aS)])) t
    refine XS.ifnullNo X0.here hx rfl (hb hby d2_3) rfl ?_
    exact k
  have S2 : ∀ t, Steps p.tables e below (s₁.setTop (mkF m 8 #[.val (.ref aS), .val (.ref aA), .val (.ref aS)] [(.ref aA), (.ref aS)])) t → Steps p.tables e below (s₁.setTop (mkF m 6 #[.val (.ref aS), .val (.ref aA), .val (.ref aS)] [])) t := by
    intro t k
    show Steps p.tables e below (s₁.setTop (mkF m 6 #[.val (.ref aS), .val (.ref aA), .val (.ref aS)] [])) t
    refine XS.aloadN X0.here hx rfl (hb hby d2_6) rfl rfl ?_
    show Steps p.tables e below (s₁.setTop (mkF m 7 #[.val (.ref aS), .val (.ref aA), .val (.ref aS)] [(.ref aS)])) t
    refine XS.aloadN X0.here hx rfl (hb hby d2_7) rfl rfl ?_
    exact k
  refine OFin.go S2 ?_
  refine OFin.go (fun t k => ?_ : ∀ t, Steps p.tables e below (s₁.setTop (mkF m 11 #[.val (.ref aS), .val (.ref aA), .val (.ref aS)] [])) t → Steps p.tables e below (s₁.setTop (mkF m 8 #[.val (.ref aS), .val (.ref aA), .val (.ref aS)] [(.ref aA), (.ref aS)])) t) ?_
  · show Steps p.tables e below (s₁.setTop (mkF m 8 #[.val (.ref aS), .val (.ref aA), .val (.ref aS)] [(.ref aA), (.ref aS)])) t
    refine Jvm.RoadKit.acmp (g := (mkF m 8 #[.val (.ref aS), .val (.ref aA), .val (.ref aS)] [(.ref aA), (.ref aS)])) X0 hx rfl rfl rfl (pc0 := 8) (pc' := 11) (same := false) rfl (hb hby d2_8) rfl (decide_eq_false fun q => naSaA (Value.ref.inj q)) (by decide) (by decide) ?_
    exact k
  have S3 : ∀ t, Steps p.tables e below (s₁.setTop (mkF m 12 #[.val (.ref aS), .val (.ref aA), .val (.ref aS)] [(.ref aS)])) t → Steps p.tables e below (s₁.setTop (mkF m 11 #[.val (.ref aS), .val (.ref aA), .val (.ref aS)] [])) t := by
    intro t k
    show Steps p.tables e below (s₁.setTop (mkF m 11 #[.val (.ref aS), .val (.ref aA), .val (.ref aS)] [])) t
    refine XS.aloadN X0.here hx rfl (hb hby d2_11) rfl rfl ?_
    exact k
  refine OFin.go S3 ?_
  obtain ⟨T4, X4, e4, st4⟩ := getF X0 hx hZ hown (host := "") (Or.inl (hw _ (List.mem_of_getElem? (i := 15) rfl))) Via.refl e0 FaS (g := (mkF m 12 #[.val (.ref aS), .val (.ref aA), .val (.ref aS)] [(.ref aS)])) rfl rfl (hb hby d2_12)
  refine OFin.go st4 ?_
  show OFin p e below _ (T4.setTop (mkF m 15 #[.val (.ref aS), .val (.ref aA), .val (.ref aS)] [(.ref aC)]))
  have S5 : ∀ t, Steps p.tables e below (T4.setTop (mkF m 3 #[.val (.ref aS), .val (.ref aA), .val (.ref aC)] [(.ref aC)])) t → Steps p.tables e below (T4.setTop (mkF m 15 #[.val (.ref aS), .val (.ref aA), .val (.ref aS)] [(.ref aC)])) t := by
    intro t k
    show Steps p.tables e below (T4.setTop (mkF m 15 #[.val (.ref aS), .val (.ref aA), .val (.ref aS)] [(.ref aC)])) t
    refine XS.astoreN X4.here hx rfl (hb hby d2_15) rfl rfl (l' := #[.val (.ref aS), .val (.ref aA), .val (.ref aC)]) rfl ?_
    show Steps p.tables e below (T4.setTop (mkF m 16 #[.val (.ref aS), .val (.ref aA), .val (.ref aC)] [])) t
    refine XS.goto X4.here hx rfl (pc0 := 16) (pc' := 2) rfl (hb hby d2_16) (by decide) (by decide) ?_
    show Steps p.tables e below (T4.setTop (mkF m 2 #[.val (.ref aS), .val (.ref aA), .val (.ref aC)] [])) t
    refine XS.aloadN X4.here hx rfl (hb hby d2_2) rfl rfl ?_
    exact k
  refine OFin.go S5 ?_
  refine OFin.go (fun t k => ?_ : ∀ t, Steps p.tables e below (T4.setTop (mkF m 6 #[.val (.ref aS), .val (.ref aA), .val (.ref aC)] [])) t → Steps p.tables e below (T4.setTop (mkF m 3 #[.val (.ref aS), .val (.ref aA), .val (.ref aC)] [(.ref aC)])) t) ?_
  · show Steps p.tables e below (T4.setTop (mkF m 3 #[.val (.ref aS), .val (.ref aA), .val (.ref aC)] [(.ref aC)])) t
    refine XS.ifnullNo X4.here hx rfl (hb hby d2_3) rfl ?_
    exact k
  have S6 : ∀ t, Steps p.tables e below (T4.setTop (mkF m 8 #[.val (.ref aS), .val (.ref aA), .val (.ref aC)] [(.ref aA), (.ref aC)])) t → Steps p.tables e below (T4.setTop (mkF m 6 #[.val (.ref aS), .val (.ref aA), .val (.ref aC)] [])) t := by
    intro t k
    show Steps p.tables e below (T4.setTop (mkF m 6 #[.val (.ref aS), .val (.ref aA), .val (.ref aC)] [])) t
    refine XS.aloadN X4.here hx rfl (hb hby d2_6) rfl rfl ?_
    show Steps p.tables e below (T4.setTop (mkF m 7 #[.val (.ref aS), .val (.ref aA), .val (.ref aC)] [(.ref aC)])) t
    refine XS.aloadN X4.here hx rfl (hb hby d2_7) rfl rfl ?_
    exact k
  refine OFin.go S6 ?_
  refine OFin.go (fun t k => ?_ : ∀ t, Steps p.tables e below (T4.setTop (mkF m 11 #[.val (.ref aS), .val (.ref aA), .val (.ref aC)] [])) t → Steps p.tables e below (T4.setTop (mkF m 8 #[.val (.ref aS), .val (.ref aA), .val (.ref aC)] [(.ref aA), (.ref aC)])) t) ?_
  · show Steps p.tables e below (T4.setTop (mkF m 8 #[.val (.ref aS), .val (.ref aA), .val (.ref aC)] [(.ref aA), (.ref aC)])) t
    refine Jvm.RoadKit.acmp (g := (mkF m 8 #[.val (.ref aS), .val (.ref aA), .val (.ref aC)] [(.ref aA), (.ref aC)])) X4 hx rfl rfl rfl (pc0 := 8) (pc' := 11) (same := false) rfl (hb hby d2_8) rfl (decide_eq_false fun q => naCaA (Value.ref.inj q)) (by decide) (by decide) ?_
    exact k
  have S7 : ∀ t, Steps p.tables e below (T4.setTop (mkF m 12 #[.val (.ref aS), .val (.ref aA), .val (.ref aC)] [(.ref aC)])) t → Steps p.tables e below (T4.setTop (mkF m 11 #[.val (.ref aS), .val (.ref aA), .val (.ref aC)] [])) t := by
    intro t k
    show Steps p.tables e below (T4.setTop (mkF m 11 #[.val (.ref aS), .val (.ref aA), .val (.ref aC)] [])) t
    refine XS.aloadN X4.here hx rfl (hb hby d2_11) rfl rfl ?_
    exact k
  refine OFin.go S7 ?_
  obtain ⟨T8, X8, e8, st8⟩ := getF X4 hx hZ hown (host := "") (Or.inl (hw _ (List.mem_of_getElem? (i := 15) rfl))) Via.refl e4 FaC (g := (mkF m 12 #[.val (.ref aS), .val (.ref aA), .val (.ref aC)] [(.ref aC)])) rfl rfl (hb hby d2_12)
  refine OFin.go st8 ?_
  show OFin p e below _ (T8.setTop (mkF m 15 #[.val (.ref aS), .val (.ref aA), .val (.ref aC)] [.null]))
  have S9 : ∀ t, Steps p.tables e below (T8.setTop (mkF m 3 #[.val (.ref aS), .val (.ref aA), .val .null] [.null])) t → Steps p.tables e below (T8.setTop (mkF m 15 #[.val (.ref aS), .val (.ref aA), .val (.ref aC)] [.null])) t := by
    intro t k
    show Steps p.tables e below (T8.setTop (mkF m 15 #[.val (.ref aS), .val (.ref aA), .val (.ref aC)] [.null])) t
    refine XS.astoreN X8.here hx rfl (hb hby d2_15) rfl rfl (l' := #[.val (.ref aS), .val (.ref aA), .val .null]) rfl ?_
    show Steps p.tables e below (T8.setTop (mkF m 16 #[.val (.ref aS), .val (.ref aA), .val .null] [])) t
    refine XS.goto X8.here hx rfl (pc0 := 16) (pc' := 2) rfl (hb hby d2_16) (by decide) (by decide) ?_
    show Steps p.tables e below (T8.setTop (mkF m 2 #[.val (.ref aS), .val (.ref aA), .val .null] [])) t
    refine XS.aloadN X8.here hx rfl (hb hby d2_2) rfl rfl ?_
    exact k
  refine OFin.go S9 ?_
  refine OFin.go (fun t k => ?_ : ∀ t, Steps p.tables e below (T8.setTop (mkF m 19 #[.val (.ref aS), .val (.ref aA), .val .null] [])) t → Steps p.tables e below (T8.setTop (mkF m 3 #[.val (.ref aS), .val (.ref aA), .val .null] [.null])) t) ?_
  · show Steps p.tables e below (T8.setTop (mkF m 3 #[.val (.ref aS), .val (.ref aA), .val .null] [.null])) t
    refine XS.ifnullYes X8.here hx rfl (pc0 := 3) (pc' := 19) rfl (hb hby d2_3) rfl (by decide) (by decide) ?_
    exact k
  have S10 : ∀ t, Steps p.tables e below (T8.setTop (mkF m 20 #[.val (.ref aS), .val (.ref aA), .val .null] [.null])) t → Steps p.tables e below (T8.setTop (mkF m 19 #[.val (.ref aS), .val (.ref aA), .val .null] [])) t := by
    intro t k
    show Steps p.tables e below (T8.setTop (mkF m 19 #[.val (.ref aS), .val (.ref aA), .val .null] [])) t
    refine XS.aloadN X8.here hx rfl (hb hby d2_19) rfl rfl ?_
    exact k
  refine OFin.go S10 ?_
  refine OFin.go (fun t k => ?_ : ∀ t, Steps p.tables e below (T8.setTop (mkF m 27 #[.val (.ref aS), .val (.ref aA), .val .null] [])) t → Steps p.tables e below (T8.setTop (mkF m 20 #[.val (.ref aS), .val (.ref aA), .val .null] [.null])) t) ?_
  · show Steps p.tables e below (T8.setTop (mkF m 20 #[.val (.ref aS), .val (.ref aA), .val .null] [.null])) t
    refine XS.ifnullYes X8.here hx rfl (pc0 := 20) (pc' := 27) rfl (hb hby d2_20) rfl (by decide) (by decide) ?_
    exact k
  have S11 : ∀ t, Steps p.tables e below (T8.setTop (mkF m 28 #[.val (.ref aS), .val (.ref aA), .val .null] [(.int (0 : Int32))])) t → Steps p.tables e below (T8.setTop (mkF m 27 #[.val (.ref aS), .val (.ref aA), .val .null] [])) t := by
    intro t k
    show Steps p.tables e below (T8.setTop (mkF m 27 #[.val (.ref aS), .val (.ref aA), .val .null] [])) t
    refine XS.iconst X8.here hx rfl (hb hby d2_27) ?_
    exact k
  refine OFin.go S11 ?_
  exact finZ X8 hx Bd.notSynchronized (t := .boolean) Bd.returns (by simp) (hb hby d2_28) rfl (by decide) (by decide) (⟨rfl, N0, e8⟩)
theorem ef_rm2_1_4 (m : MethodId) (aS : Addr) : entryFrame m #[(.ref aS), .null] 3 = mkF m 0 #[.val (.ref aS), .val .null, .unset] [] := by first | (simp [entryFrame, mkF, argsToLocals, Value.category]; done) | rfl
def Q_rm2_1_4 (Z : State)  (aC aS aT aA : Addr) (h0 : Heap) (n0 : Nat) (v : Option Value) (h : Heap) (L : List Loc) : Prop := v = some (.int (0 : Int32)) ∧ Fr n0 L ∧ h = h0
set_option maxRecDepth 65536 in
set_option maxHeartbeats 40000000 in
theorem rm2_1_4 (l : Launch) (Z : State) (a0 : Array Value) (hw : ∀ d ∈ tables_1, d.before a0 Z = true) (ws : List Jvm.Cond)  (aC aS aT aA : Addr) (h0 : Heap) (n0 : Nat) (Z0 : n0 ≤ h0.size) (FaC : Fld Z h0 aC "com/example/stowage/stowage/ip/Profile" "base" "Lcom/example/stowage/stowage/ip/Profile;" .null) (FaS : Fld Z h0 aS "com/example/stowage/stowage/ip/Profile" "base" "Lcom/example/stowage/stowage/ip/Profile;" (.ref aC)) (FaT : Fld Z h0 aT "com/example/stowage/stowage/ip/Profile" "base" "Lcom/example/stowage/stowage/ip/Profile;" (.ref aS)) (FaA : Fld Z h0 aA "com/example/stowage/stowage/ip/Profile" "base" "Lcom/example/stowage/stowage/ip/Profile;" (.ref aC)) (naCaS : aC ≠ aS) (naCaT : aC ≠ aT) (naCaA : aC ≠ aA) (naSaT : aS ≠ aT) (naSaA : aS ≠ aA) (naTaA : aT ≠ aA) :
    MetFree l (⟨"com/example/stowage/stowage/ip/Profile", "follows", "(Lcom/example/stowage/stowage/ip/Profile;)Z"⟩ : MethodName) (head1 (Jvm.Cond.code (⟨"com/example/stowage/stowage/ip/Profile", "follows", "(Lcom/example/stowage/stowage/ip/Profile;)Z"⟩ : MethodName) prog_149_method_9_code 3 (some .boolean) :: ws) ({ frames := 0, cells := 0, slots := 0, locals := 0 } : Room)) (fun a U => a = #[(.ref aS), .null] ∧ Z.Warmed39 U.vm ∧ U.heap = h0) (fun _ _ _ _ _ => True) (fun _ U o U' => ∃ v L, o = .returned v ∧ (Q_rm2_1_4 Z aC aS aT aA h0 n0) v U'.heap L ∧ FrameEnd U o U' L ({ frames := 0, cells := 0, slots := 0, locals := 0 } : Room).cells ({ frames := 0, cells := 0, slots := 0, locals := 0 } : Room).slots) := by
  refine MetFree.of_bodySF (plainFor_of_name pn_1) hisR ?_
  intro p e s m args below meth c s₁ Bd hml0 hP hK
  obtain ⟨rfl, hZ, hh⟩ := hP
  have hx := Bd.exec
  have hby := Bd.bytes
  have hml : c.maxLocals = 3 := hml0
  have hown : s.vm.findClass "com/example/stowage/stowage/ip/Profile" = some m.cls := findClass_of_methodNamed Bd.named
  have hnm := (name_of_methodNamed Bd.named Bd.method).1
  have X0 : Stand p l e ({ frames := 0, cells := 0, slots := 0, locals := 0 } : Room) s m #[(.ref aS), .null] below meth c s₁ [] 0 0 := Stand.of_body Bd
  have e0 : s₁.heap = h0 := by rw [← hh, Bd.state]; rfl
  have N0 := Fr.nil n0
  show OFin p e below (ORet (Q_rm2_1_4 Z aC aS aT aA h0 n0) s ({ frames := 0, cells := 0, slots := 0, locals := 0 } : Room).cells ({ frames := 0, cells := 0, slots := 0, locals := 0 } : Room).slots) (s₁.setTop (entryFrame m #[(.ref aS), .null] 3))
  refine OFin.go (fun t k => castTop (ef_rm2_1_4 m aS) k) ?_
  show OFin p e below (ORet (Q_rm2_1_4 Z aC aS aT aA h0 n0) s ({ frames := 0, cells := 0, slots := 0, locals := 0 } : Room).cells ({ frames := 0, cells := 0, slots := 0, locals := 0 } : Room).slots) (s₁.setTop (mkF m 0 #[.val (.ref aS), .val .null, .unset] []))
  have S1 : ∀ t, Steps p.tables e below (s₁.setTop (mkF m 3 #[.val (.ref aS), .val .null, .val (.ref aS)] [(.ref aS)])) t → Steps p.tables e below (s₁.setTop (mkF m 0 #[.val (.ref aS), .val .null, .unset] [])) t := by
    intro t k
    show Steps p.tables e below (s₁.setTop (mkF m 0 #[.val (.ref aS), .val .null, .unset] [])) t
    refine XS.aloadN X0.here hx rfl (hb hby d2_0) rfl rfl ?_
    show Steps p.tables e below (s₁.setTop (mkF m 1 #[.val (.ref aS), .val .null, .unset] [(.ref aS)])) t
    refine XS.astoreN X0.here hx rfl (hb hby d2_1) rfl rfl (l' := #[.val (.ref aS), .val .null, .val (.ref aS)]) rfl ?_
    show Steps p.tables e below (s₁.setTop (mkF m 2 #[.val (.ref aS), .val .null, .val (.ref aS)] [])) t
    refine XS.aloadN X0.here hx rfl (hb hby d2_2) rfl rfl ?_
    exact k
  refine OFin.go S1 ?_
  refine OFin.go (fun t k => ?_ : ∀ t, Steps p.tables e below (s₁.setTop (mkF m 6 #[.val (.ref aS), .val .null, .val (.ref aS)] [])) t → Steps p.tables e below (s₁.setTop (mkF m 3 #[.val (.ref aS), .val .null, .val (.ref aS)] [(.ref aS)])) t) ?_
  · show Steps p.tables e below (s₁.setTop (mkF m 3 #[.val (.ref aS), .val .null, .val (.ref aS)] [(.ref aS)])) t
    refine XS.ifnullNo X0.here hx rfl (hb hby d2_3) rfl ?_
    exact k
  have S2 : ∀ t, Steps p.tables e below (s₁.setTop (mkF m 8 #[.val (.ref aS), .val .null, .val (.ref aS)] [.null, (.ref aS)])) t → Steps p.tables e below (s₁.setTop (mkF m 6 #[.val (.ref aS), .val .null, .val (.ref aS)] [])) t := by
    intro t k
    show Steps p.tables e below (s₁.setTop (mkF m 6 #[.val (.ref aS), .val .null, .val (.ref aS)] [])) t
    refine XS.aloadN X0.here hx rfl (hb hby d2_6) rfl rfl ?_
    show Steps p.tables e below (s₁.setTop (mkF m 7 #[.val (.ref aS), .val .null, .val (.ref aS)] [(.ref aS)])) t
    refine XS.aloadN X0.here hx rfl (hb hby d2_7) rfl rfl ?_
    exact k
  refine OFin.go S2 ?_
  refine OFin.go (fun t k => ?_ : ∀ t, Steps p.tables e below (s₁.setTop (mkF m 11 #[.val (.ref aS), .val .null, .val (.ref aS)] [])) t → Steps p.tables e below (s₁.setTop (mkF m 8 #[.val (.ref aS), .val .null, .val (.ref aS)] [.null, (.ref aS)])) t) ?_
  · show Steps p.tables e below (s₁.setTop (mkF m 8 #[.val (.ref aS), .val .null, .val (.ref aS)] [.null, (.ref aS)])) t
    refine Jvm.RoadKit.acmp (g := (mkF m 8 #[.val (.ref aS), .val .null, .val (.ref aS)] [.null, (.ref aS)])) X0 hx rfl rfl rfl (pc0 := 8) (pc' := 11) (same := false) rfl (hb hby d2_8) rfl (decide_eq_false nofun) (by decide) (by decide) ?_
    exact k
  have S3 : ∀ t, Steps p.tables e below (s₁.setTop (mkF m 12 #[.val (.ref aS), .val .null, .val (.ref aS)] [(.ref aS)])) t → Steps p.tables e below (s₁.setTop (mkF m 11 #[.val (.ref aS), .val .null, .val (.ref aS)] [])) t := by
    intro t k
    show Steps p.tables e below (s₁.setTop (mkF m 11 #[.val (.ref aS), .val .null, .val (.ref aS)] [])) t
    refine XS.aloadN X0.here hx rfl (hb hby d2_11) rfl rfl ?_
    exact k
  refine OFin.go S3 ?_
  obtain ⟨T4, X4, e4, st4⟩ := getF X0 hx hZ hown (host := "") (Or.inl (hw _ (List.mem_of_getElem? (i := 15) rfl))) Via.refl e0 FaS (g := (mkF m 12 #[.val (.ref aS), .val .null, .val (.ref aS)] [(.ref aS)])) rfl rfl (hb hby d2_12)
  refine OFin.go st4 ?_
  show OFin p e below _ (T4.setTop (mkF m 15 #[.val (.ref aS), .val .null, .val (.ref aS)] [(.ref aC)]))
  have S5 : ∀ t, Steps p.tables e below (T4.setTop (mkF m 3 #[.val (.ref aS), .val .null, .val (.ref aC)] [(.ref aC)])) t → Steps p.tables e below (T4.setTop (mkF m 15 #[.val (.ref aS), .val .null, .val (.ref aS)] [(.ref aC)])) t := by
    intro t k
    show Steps p.tables e below (T4.setTop (mkF m 15 #[.val (.ref aS), .val .null, .val (.ref aS)] [(.ref aC)])) t
    refine XS.astoreN X4.here hx rfl (hb hby d2_15) rfl rfl (l' := #[.val (.ref aS), .val .null, .val (.ref aC)]) rfl ?_
    show Steps p.tables e below (T4.setTop (mkF m 16 #[.val (.ref aS), .val .null, .val (.ref aC)] [])) t
    refine XS.goto X4.here hx rfl (pc0 := 16) (pc' := 2) rfl (hb hby d2_16) (by decide) (by decide) ?_
    show Steps p.tables e below (T4.setTop (mkF m 2 #[.val (.ref aS), .val .null, .val (.ref aC)] [])) t
    refine XS.aloadN X4.here hx rfl (hb hby d2_2) rfl rfl ?_
    exact k
  refine OFin.go S5 ?_
  refine OFin.go (fun t k => ?_ : ∀ t, Steps p.tables e below (T4.setTop (mkF m 6 #[.val (.ref aS), .val .null, .val (.ref aC)] [])) t → Steps p.tables e below (T4.setTop (mkF m 3 #[.val (.ref aS), .val .null, .val (.ref aC)] [(.ref aC)])) t) ?_
  · show Steps p.tables e below (T4.setTop (mkF m 3 #[.val (.ref aS), .val .null, .val (.ref aC)] [(.ref aC)])) t
    refine XS.ifnullNo X4.here hx rfl (hb hby d2_3) rfl ?_
    exact k
  have S6 : ∀ t, Steps p.tables e below (T4.setTop (mkF m 8 #[.val (.ref aS), .val .null, .val (.ref aC)] [.null, (.ref aC)])) t → Steps p.tables e below (T4.setTop (mkF m 6 #[.val (.ref aS), .val .null, .val (.ref aC)] [])) t := by
    intro t k
    show Steps p.tables e below (T4.setTop (mkF m 6 #[.val (.ref aS), .val .null, .val (.ref aC)] [])) t
    refine XS.aloadN X4.here hx rfl (hb hby d2_6) rfl rfl ?_
    show Steps p.tables e below (T4.setTop (mkF m 7 #[.val (.ref aS), .val .null, .val (.ref aC)] [(.ref aC)])) t
    refine XS.aloadN X4.here hx rfl (hb hby d2_7) rfl rfl ?_
    exact k
  refine OFin.go S6 ?_
  refine OFin.go (fun t k => ?_ : ∀ t, Steps p.tables e below (T4.setTop (mkF m 11 #[.val (.ref aS), .val .null, .val (.ref aC)] [])) t → Steps p.tables e below (T4.setTop (mkF m 8 #[.val (.ref aS), .val .null, .val (.ref aC)] [.null, (.ref aC)])) t) ?_
  · show Steps p.tables e below (T4.setTop (mkF m 8 #[.val (.ref aS), .val .null, .val (.ref aC)] [.null, (.ref aC)])) t
    refine Jvm.RoadKit.acmp (g := (mkF m 8 #[.val (.ref aS), .val .null, .val (.ref aC)] [.null, (.ref aC)])) X4 hx rfl rfl rfl (pc0 := 8) (pc' := 11) (same := false) rfl (hb hby d2_8) rfl (decide_eq_false nofun) (by decide) (by decide) ?_
    exact k
  have S7 : ∀ t, Steps p.tables e below (T4.setTop (mkF m 12 #[.val (.ref aS), .val .null, .val (.ref aC)] [(.ref aC)])) t → Steps p.tables e below (T4.setTop (mkF m 11 #[.val (.ref aS), .val .null, .val (.ref aC)] [])) t := by
    intro t k
    show Steps p.tables e below (T4.setTop (mkF m 11 #[.val (.ref aS), .val .null, .val (.ref aC)] [])) t
    refine XS.aloadN X4.here hx rfl (hb hby d2_11) rfl rfl ?_
    exact k
  refine OFin.go S7 ?_
  obtain ⟨T8, X8, e8, st8⟩ := getF X4 hx hZ hown (host := "") (Or.inl (hw _ (List.mem_of_getElem? (i := 15) rfl))) Via.refl e4 FaC (g := (mkF m 12 #[.val (.ref aS), .val .null, .val (.ref aC)] [(.ref aC)])) rfl rfl (hb hby d2_12)
  refine OFin.go st8 ?_
  show OFin p e below _ (T8.setTop (mkF m 15 #[.val (.ref aS), .val .null, .val (.ref aC)] [.null]))
  have S9 : ∀ t, Steps p.tables e below (T8.setTop (mkF m 3 #[.val (.ref aS), .val .null, .val .null] [.null])) t → Steps p.tables e below (T8.setTop (mkF m 15 #[.val (.ref aS), .val .null, .val (.ref aC)] [.null])) t := by
    intro t k
    show Steps p.tables e below (T8.setTop (mkF m 15 #[.val (.ref aS), .val .null, .val (.ref aC)] [.null])) t
    refine XS.astoreN X8.here hx rfl (hb hby d2_15) rfl rfl (l' := #[.val (.ref aS), .val .null, .val .null]) rfl ?_
    show Steps p.tables e below (T8.setTop (mkF m 16 #[.val (.ref aS), .val .null, .val .null] [])) t
    refine XS.goto X8.here hx rfl (pc0 := 16) (pc' := 2) rfl (hb hby d2_16) (by decide) (by decide) ?_
    show Steps p.tables e below (T8.setTop (mkF m 2 #[.val (.ref aS), .val .null, .val .null] [])) t
    refine XS.aloadN X8.here hx rfl (hb hby d2_2) rfl rfl ?_
    exact k
  refine OFin.go S9 ?_
  refine OFin.go (fun t k => ?_ : ∀ t, Steps p.tables e below (T8.setTop (mkF m 19 #[.val (.ref aS), .val .null, .val .null] [])) t → Steps p.tables e below (T8.setTop (mkF m 3 #[.val (.ref aS), .val .null, .val .null] [.null])) t) ?_
  · show Steps p.tables e below (T8.setTop (mkF m 3 #[.val (.ref aS), .val .null, .val .null] [.null])) t
    refine XS.ifnullYes X8.here hx rfl (pc0 := 3) (pc' := 19) rfl (hb hby d2_3) rfl (by decide) (by decide) ?_
    exact k
  have S10 : ∀ t, Steps p.tables e below (T8.setTop (mkF m 20 #[.val (.ref aS), .val .null, .val .null] [.null])) t → Steps p.tables e below (T8.setTop (mkF m 19 #[.val (.ref aS), .val .null, .val .null] [])) t := by
    intro t k
    show Steps p.tables e below (T8.setTop (mkF m 19 #[.val (.ref aS), .val .null, .val .null] [])) t
    refine XS.aloadN X8.here hx rfl (hb hby d2_19) rfl rfl ?_
    exact k
  refine OFin.go S10 ?_
  refine OFin.go (fun t k => ?_ : ∀ t, Steps p.tables e below (T8.setTop (mkF m 27 #[.val (.ref aS), .val .null, .val .null] [])) t → Steps p.tables e below (T8.setTop (mkF m 20 #[.val (.ref aS), .val .null, .val .null] [.null])) t) ?_
  · show Steps p.tables e below (T8.setTop (mkF m 20 #[.val (.ref aS), .val .null, .val .null] [.null])) t
    refine XS.ifnullYes X8.here hx rfl (pc0 := 20) (pc' := 27) rfl (hb hby d2_20) rfl (by decide) (by decide) ?_
    exact k
  have S11 : ∀ t, Steps p.tables e below (T8.setTop (mkF m 28 #[.val (.ref aS), .val .null, .val .null] [(.int (0 : Int32))])) t → Steps p.tables e below (T8.setTop (mkF m 27 #[.val (.ref aS), .val .null, .val .null] [])) t := by
    intro t k
    show Steps p.tables e below (T8.setTop (mkF m 27 #[.val (.ref aS), .val .null, .val .null] [])) t
    refine XS.iconst X8.here hx rfl (hb hby d2_27) ?_
    exact k
  refine OFin.go S11 ?_
  exact finZ X8 hx Bd.notSynchronized (t := .boolean) Bd.returns (by simp) (hb hby d2_28) rfl (by decide) (by decide) (⟨rfl, N0, e8⟩)
theorem ef_rm2_2_0 (m : MethodId) (aT : Addr) (aC : Addr) : entryFrame m #[(.ref aT), (.ref aC)] 3 = mkF m 0 #[.val (.ref aT), .val (.ref aC), .unset] [] := by first | (simp [entryFrame, mkF, argsToLocals, Value.category]; done) | rfl
def Q_rm2_2_0 (Z : State)  (aC aS aT aA : Addr) (h0 : Heap) (n0 : Nat) (v : Option Value) (h : Heap) (L : List Loc) : Prop := v = some (.int (1 : Int32)) ∧ Fr n0 L ∧ h = h0
set_option maxRecDepth 65536 in
set_option maxHeartbeats 40000000 in
theorem rm2_2_0 (l : Launch) (Z : State) (a0 : Array Value) (hw : ∀ d ∈ tables_1, d.before a0 Z = true) (ws : List Jvm.Cond)  (aC aS aT aA : Addr) (h0 : Heap) (n0 : Nat) (Z0 : n0 ≤ h0.size) (FaC : Fld Z h0 aC "com/example/stowage/stowage/ip/Profile" "base" "Lcom/example/stowage/stowage/ip/Profile;" .null) (FaS : Fld Z h0 aS "com/example/stowage/stowage/ip/Profile" "base" "Lcom/example/stowage/stowage/ip/Profile;" (.ref aC)) (FaT : Fld Z h0 aT "com/example/stowage/stowage/ip/Profile" "base" "Lcom/example/stowage/stowage/ip/Profile;" (.ref aS)) (FaA : Fld Z h0 aA "com/example/stowage/stowage/ip/Profile" "base" "Lcom/example/stowage/stowage/ip/Profile;" (.ref aC)) (naCaS : aC ≠ aS) (naCaT : aC ≠ aT) (naCaA : aC ≠ aA) (naSaT : aS ≠ aT) (naSaA : aS ≠ aA) (naTaA : aT ≠ aA) :
    MetFree l (⟨"com/example/stowage/stowage/ip/Profile", "follows", "(Lcom/example/stowage/stowage/ip/Profile;)Z"⟩ : MethodName) (head1 (Jvm.Cond.code (⟨"com/example/stowage/stowage/ip/Profile", "follows", "(Lcom/example/stowage/stowage/ip/Profile;)Z"⟩ : MethodName) prog_149_method_9_code 3 (some .boolean) :: ws) ({ frames := 0, cells := 0, slots := 0, locals := 0 } : Room)) (fun a U => a = #[(.ref aT), (.ref aC)] ∧ Z.Warmed39 U.vm ∧ U.heap = h0) (fun _ _ _ _ _ => True) (fun _ U o U' => ∃ v L, o = .returned v ∧ (Q_rm2_2_0 Z aC aS aT aA h0 n0) v U'.heap L ∧ FrameEnd U o U' L ({ frames := 0, cells := 0, slots := 0, locals := 0 } : Room).cells ({ frames := 0, cells := 0, slots := 0, locals := 0 } : Room).slots) := by
  refine MetFree.of_bodySF (plainFor_of_name pn_1) hisR ?_
  intro p e s m args below meth c s₁ Bd hml0 hP hK
  obtain ⟨rfl, hZ, hh⟩ := hP
  have hx := Bd.exec
  have hby := Bd.bytes
  have hml : c.maxLocals = 3 := hml0
  have hown : s.vm.findClass "com/example/stowage/stowage/ip/Profile" = some m.cls := findClass_of_methodNamed Bd.named
  have hnm := (name_of_methodNamed Bd.named Bd.method).1
  have X0 : Stand p l e ({ frames := 0, cells := 0, slots := 0, locals := 0 } : Room) s m #[(.ref aT), (.ref aC)] below meth c s₁ [] 0 0 := Stand.of_body Bd
  have e0 : s₁.heap = h0 := by rw [← hh, Bd.state]; rfl
  have N0 := Fr.nil n0
  show OFin p e below (ORet (Q_rm2_2_0 Z aC aS aT aA h0 n0) s ({ frames := 0, cells := 0, slots := 0, locals := 0 } : Room).cells ({ frames := 0, cells := 0, slots := 0, locals := 0 } : Room).slots) (s₁.setTop (entryFrame m #[(.ref aT), (.ref aC)] 3))
  refine OFin.go (fun t k => castTop (ef_rm2_2_0 m aT aC) k) ?_
  show OFin p e below (ORet (Q_rm2_2_0 Z aC aS aT aA h0 n0) s ({ frames := 0, cells := 0, slots := 0, locals := 0 } : Room).cells ({ frames := 0, cells := 0, slots := 0, locals := 0 } : Room).slots) (s₁.setTop (mkF m 0 #[.val (.ref aT), .val (.ref aC), .unset] []))
  have S1 : ∀ t, Steps p.tables e below (s₁.setTop (mkF m 3 #[.val (.ref aT), .val (.ref aC), .val (.ref aT)] [(.ref aT)])) t → Steps p.tables e below (s₁.setTop (mkF m 0 #[.val (.ref aT), .val (.ref aC), .unset] [])) t := by
    intro t k
    show Steps p.tables e below (s₁.setTop (mkF m 0 #[.val (.ref aT), .val (.ref aC), .unset] [])) t
    refine XS.aloadN X0.here hx rfl (hb hby d2_0) rfl rfl ?_
    show Steps p.tables e below (s₁.setTop (mkF m 1 #[.val (.ref aT), .val (.ref aC), .unset] [(.ref aT)])) t
    refine XS.astoreN X0.here hx rfl (hb hby d2_1) rfl rfl (l' := #[.val (.ref aT), .val (.ref aC), .val (.ref aT)]) rfl ?_
    show Steps p.tables e below (s₁.setTop (mkF m 2 #[.val (.ref aT), .val (.ref aC), .val (.ref aT)] [])) t
    refine XS.aloadN X0.here hx rfl (hb hby d2_2) rfl rfl ?_
    exact k
  refine OFin.go S1 ?_
  refine OFin.go (fun t k => ?_ : ∀ t, Steps p.tables e below (s₁.setTop (mkF m 6 #[.val (.ref aT), .val (.ref aC), .val (.ref aT)] [])) t → Steps p.tables e below (s₁.setTop (mkF m 3 #[.val (.ref aT), .val (.ref aC), .val (.ref aT)] [(.ref aT)])) t) ?_
  · show Steps p.tables e below (s₁.setTop (mkF m 3 #[.val (.ref aT), .val (.ref aC), .val (.ref aT)] [(.ref aT)])) t
    refine XS.ifnullNo X0.here hx rfl (hb hby d2_3) rfl ?_
    exact k
  have S2 : ∀ t, Steps p.tables e below (s₁.setTop (mkF m 8 #[.val (.ref aT), .val (.ref aC), .val (.ref aT)] [(.ref aC), (.ref aT)])) t → Steps p.tables e below (s₁.setTop (mkF m 6 #[.val (.ref aT), .val (.ref aC), .val (.ref aT)] [])) t := by
    intro t k
    show Steps p.tables e below (s₁.setTop (mkF m 6 #[.val (.ref aT), .val (.ref aC), .val (.ref aT)] [])) t
    refine XS.aloadN X0.here hx rfl (hb hby d2_6) rfl rfl ?_
    show Steps p.tables e below (s₁.setTop (mkF m 7 #[.val (.ref aT), .val (.ref aC), .val (.ref aT)] [(.ref aT)])) t
    refine XS.aloadN X0.here hx rfl (hb hby d2_7) rfl rfl ?_
    exact k
  refine OFin.go S2 ?_
  refine OFin.go (fun t k => ?_ : ∀ t, Steps p.tables e below (s₁.setTop (mkF m 11 #[.val (.ref aT), .val (.ref aC), .val (.ref aT)] [])) t → Steps p.tables e below (s₁.setTop (mkF m 8 #[.val (.ref aT), .val (.ref aC), .val (.ref aT)] [(.ref aC), (.ref aT)])) t) ?_
  · show Steps p.tables e below (s₁.setTop (mkF m 8 #[.val (.ref aT), .val (.ref aC), .val (.ref aT)] [(.ref aC), (.ref aT)])) t
    refine Jvm.RoadKit.acmp (g := (mkF m 8 #[.val (.ref aT), .val (.ref aC), .val (.ref aT)] [(.ref aC), (.ref aT)])) X0 hx rfl rfl rfl (pc0 := 8) (pc' := 11) (same := false) rfl (hb hby d2_8) rfl (decide_eq_false fun q => (Ne.symm naCaT) (Value.ref.inj q)) (by decide) (by decide) ?_
    exact k
  have S3 : ∀ t, Steps p.tables e below (s₁.setTop (mkF m 12 #[.val (.ref aT), .val (.ref aC), .val (.ref aT)] [(.ref aT)])) t → Steps p.tables e below (s₁.setTop (mkF m 11 #[.val (.ref aT), .val (.ref aC), .val (.ref aT)] [])) t := by
    intro t k
    show Steps p.tables e below (s₁.setTop (mkF m 11 #[.val (.ref aT), .val (.ref aC), .val (.ref aT)] [])) t
    refine XS.aloadN X0.here hx rfl (hb hby d2_11) rfl rfl ?_
    exact k
  refine OFin.go S3 ?_
  obtain ⟨T4, X4, e4, st4⟩ := getF X0 hx hZ hown (host := "") (Or.inl (hw _ (List.mem_of_getElem? (i := 15) rfl))) Via.refl e0 FaT (g := (mkF m 12 #[.val (.ref aT), .val (.ref aC), .val (.ref aT)] [(.ref aT)])) rfl rfl (hb hby d2_12)
  refine OFin.go st4 ?_
  show OFin p e below _ (T4.setTop (mkF m 15 #[.val (.ref aT), .val (.ref aC), .val (.ref aT)] [(.ref aS)]))
  have S5 : ∀ t, Steps p.tables e below (T4.setTop (mkF m 3 #[.val (.ref aT), .val (.ref aC), .val (.ref aS)] [(.ref aS)])) t → Steps p.tables e below (T4.setTop (mkF m 15 #[.val (.ref aT), .val (.ref aC), .val (.ref aT)] [(.ref aS)])) t := by
    intro t k
    show Steps p.tables e below (T4.setTop (mkF m 15 #[.val (.ref aT), .val (.ref aC), .val (.ref aT)] [(.ref aS)])) t
    refine XS.astoreN X4.here hx rfl (hb hby d2_15) rfl rfl (l' := #[.val (.ref aT), .val (.ref aC), .val (.ref aS)]) rfl ?_
    show Steps p.tables e below (T4.setTop (mkF m 16 #[.val (.ref aT), .val (.ref aC), .val (.ref aS)] [])) t
    refine XS.goto X4.here hx rfl (pc0 := 16) (pc' := 2) rfl (hb hby d2_16) (by decide) (by decide) ?_
    show Steps p.tables e below (T4.setTop (mkF m 2 #[.val (.ref aT), .val (.ref aC), .val (.ref aS)] [])) t
    refine XS.aloadN X4.here hx rfl (hb hby d2_2) rfl rfl ?_
    exact k
  refine OFin.go S5 ?_
  refine OFin.go (fun t k => ?_ : ∀ t, Steps p.tables e below (T4.setTop (mkF m 6 #[.val (.ref aT), .val (.ref aC), .val (.ref aS)] [])) t → Steps p.tables e below (T4.setTop (mkF m 3 #[.val (.ref aT), .val (.ref aC), .val (.ref aS)] [(.ref aS)])) t) ?_
  · show Steps p.tables e below (T4.setTop (mkF m 3 #[.val (.ref aT), .val (.ref aC), .val (.ref aS)] [(.ref aS)])) t
    refine XS.ifnullNo X4.here hx rfl (hb hby d2_3) rfl ?_
    exact k
  have S6 : ∀ t, Steps p.tables e below (T4.setTop (mkF m 8 #[.val (.ref aT), .val (.ref aC), .val (.ref aS)] [(.ref aC), (.ref aS)])) t → Steps p.tables e below (T4.setTop (mkF m 6 #[.val (.ref aT), .val (.ref aC), .val (.ref aS)] [])) t := by
    intro t k
    show Steps p.tables e below (T4.setTop (mkF m 6 #[.val (.ref aT), .val (.ref aC), .val (.ref aS)] [])) t
    refine XS.aloadN X4.here hx rfl (hb hby d2_6) rfl rfl ?_
    show Steps p.tables e below (T4.setTop (mkF m 7 #[.val (.ref aT), .val (.ref aC), .val (.ref aS)] [(.ref aS)])) t
    refine XS.aloadN X4.here hx rfl (hb hby d2_7) rfl rfl ?_
    exact k
  refine OFin.go S6 ?_
  refine OFin.go (fun t k => ?_ : ∀ t, Steps p.tables e below (T4.setTop (mkF m 11 #[.val (.ref aT), .val (.ref aC), .val (.ref aS)] [])) t → Steps p.tables e below (T4.setTop (mkF m 8 #[.val (.ref aT), .val (.ref aC), .val (.ref aS)] [(.ref aC), (.ref aS)])) t) ?_
  · show Steps p.tables e below (T4.setTop (mkF m 8 #[.val (.ref aT), .val (.ref aC), .val (.ref aS)] [(.ref aC), (.ref aS)])) t
    refine Jvm.RoadKit.acmp (g := (mkF m 8 #[.val (.ref aT), .val (.ref aC), .val (.ref aS)] [(.ref aC), (.ref aS)])) X4 hx rfl rfl rfl (pc0 := 8) (pc' := 11) (same := false) rfl (hb hby d2_8) rfl (decide_eq_false fun q => (Ne.symm naCaS) (Value.ref.inj q)) (by decide) (by decide) ?_
    exact k
  have S7 : ∀ t, Steps p.tables e below (T4.setTop (mkF m 12 #[.val (.ref aT), .val (.ref aC), .val (.ref aS)] [(.ref aS)])) t → Steps p.tables e below (T4.setTop (mkF m 11 #[.val (.ref aT), .val (.ref aC), .val (.ref aS)] [])) t := by
    intro t k
    show Steps p.tables e below (T4.setTop (mkF m 11 #[.val (.ref aT), .val (.ref aC), .val (.ref aS)] [])) t
    refine XS.aloadN X4.here hx rfl (hb hby d2_11) rfl rfl ?_
    exact k
  refine OFin.go S7 ?_
  obtain ⟨T8, X8, e8, st8⟩ := getF X4 hx hZ hown (host := "") (Or.inl (hw _ (List.mem_of_getElem? (i := 15) rfl))) Via.refl e4 FaS (g := (mkF m 12 #[.val (.ref aT), .val (.ref aC), .val (.ref aS)] [(.ref aS)])) rfl rfl (hb hby d2_12)
  refine OFin.go st8 ?_
  show OFin p e below _ (T8.setTop (mkF m 15 #[.val (.ref aT), .val (.ref aC), .val (.ref aS)] [(.ref aC)]))
  have S9 : ∀ t, Steps p.tables e below (T8.setTop (mkF m 3 #[.val (.ref aT), .val (.ref aC), .val (.ref aC)] [(.ref aC)])) t → Steps p.tables e below (T8.setTop (mkF m 15 #[.val (.ref aT), .val (.ref aC), .val (.ref aS)] [(.ref aC)])) t := by
    intro t k
    show Steps p.tables e below (T8.setTop (mkF m 15 #[.val (.ref aT), .val (.ref aC), .val (.ref aS)] [(.ref aC)])) t
    refine XS.astoreN X8.here hx rfl (hb hby d2_15) rfl rfl (l' := #[.val (.ref aT), .val (.ref aC), .val (.ref aC)]) rfl ?_
    show Steps p.tables e below (T8.setTop (mkF m 16 #[.val (.ref aT), .val (.ref aC), .val (.ref aC)] [])) t
    refine XS.goto X8.here hx rfl (pc0 := 16) (pc' := 2) rfl (hb hby d2_16) (by decide) (by decide) ?_
    show Steps p.tables e below (T8.setTop (mkF m 2 #[.val (.ref aT), .val (.ref aC), .val (.ref aC)] [])) t
    refine XS.aloadN X8.here hx rfl (hb hby d2_2) rfl rfl ?_
    exact k
  refine OFin.go S9 ?_
  refine OFin.go (fun t k => ?_ : ∀ t, Steps p.tables e below (T8.setTop (mkF m 6 #[.val (.ref aT), .val (.ref aC), .val (.ref aC)] [])) t → Steps p.tables e below (T8.setTop (mkF m 3 #[.val (.ref aT), .val (.ref aC), .val (.ref aC)] [(.ref aC)])) t) ?_
  · show Steps p.tables e below (T8.setTop (mkF m 3 #[.val (.ref aT), .val (.ref aC), .val (.ref aC)] [(.ref aC)])) t
    refine XS.ifnullNo X8.here hx rfl (hb hby d2_3) rfl ?_
    exact k
  have S10 : ∀ t, Steps p.tables e below (T8.setTop (mkF m 8 #[.val (.ref aT), .val (.ref aC), .val (.ref aC)] [(.ref aC), (.ref aC)])) t → Steps p.tables e below (T8.setTop (mkF m 6 #[.val (.ref aT), .val (.ref aC), .val (.ref aC)] [])) t := by
    intro t k
    show Steps p.tables e below (T8.setTop (mkF m 6 #[.val (.ref aT), .val (.ref aC), .val (.ref aC)] [])) t
    refine XS.aloadN X8.here hx rfl (hb hby d2_6) rfl rfl ?_
    show Steps p.tables e below (T8.setTop (mkF m 7 #[.val (.ref aT), .val (.ref aC), .val (.ref aC)] [(.ref aC)])) t
    refine XS.aloadN X8.here hx rfl (hb hby d2_7) rfl rfl ?_
    exact k
  refine OFin.go S10 ?_
  refine OFin.go (fun t k => ?_ : ∀ t, Steps p.tables e below (T8.setTop (mkF m 19 #[.val (.ref aT), .val (.ref aC), .val (.ref aC)] [])) t → Steps p.tables e below (T8.setTop (mkF m 8 #[.val (.ref aT), .val (.ref aC), .val (.ref aC)] [(.ref aC), (.ref aC)])) t) ?_
  · show Steps p.tables e below (T8.setTop (mkF m 8 #[.val (.ref aT), .val (.ref aC), .val (.ref aC)] [(.ref aC), (.ref aC)])) t
    refine Jvm.RoadKit.acmp (g := (mkF m 8 #[.val (.ref aT), .val (.ref aC), .val (.ref aC)] [(.ref aC), (.ref aC)])) X8 hx rfl rfl rfl (pc0 := 8) (pc' := 19) (same := true) rfl (hb hby d2_8) rfl (decide_eq_true rfl) (by decide) (by decide) ?_
    exact k
  have S11 : ∀ t, Steps p.tables e below (T8.setTop (mkF m 20 #[.val (.ref aT), .val (.ref aC), .val (.ref aC)] [(.ref aC)])) t → Steps p.tables e below (T8.setTop (mkF m 19 #[.val (.ref aT), .val (.ref aC), .val (.ref aC)] [])) t := by
    intro t k
    show Steps p.tables e below (T8.setTop (mkF m 19 #[.val (.ref aT), .val (.ref aC), .val (.ref aC)] [])) t
    refine XS.aloadN X8.here hx rfl (hb hby d2_19) rfl rfl ?_
    exact k
  refine OFin.go S11 ?_
  refine OFin.go (fun t k => ?_ : ∀ t, Steps p.tables e below (T8.setTop (mkF m 23 #[.val (.ref aT), .val (.ref aC), .val (.ref aC)] [])) t → Steps p.tables e below (T8.setTop (mkF m 20 #[.val (.ref aT), .val (.ref aC), .val (.ref aC)] [(.ref aC)])) t) ?_
  · show Steps p.tables e below (T8.setTop (mkF m 20 #[.val (.ref aT), .val (.ref aC), .val (.ref aC)] [(.ref aC)])) t
    refine XS.ifnullNo X8.here hx rfl (hb hby d2_20) rfl ?_
    exact k
  have S12 : ∀ t, Steps p.tables e below (T8.setTop (mkF m 28 #[.val (.ref aT), .val (.ref aC), .val (.ref aC)] [(.int (1 : Int32))])) t → Steps p.tables e below (T8.setTop (mkF m 23 #[.val (.ref aT), .val (.ref aC), .val (.ref aC)] [])) t := by
    intro t k
    show Steps p.tables e below (T8.setTop (mkF m 23 #[.val (.ref aT), .val (.ref aC), .val (.ref aC)] [])) t
    refine XS.iconst X8.here hx rfl (hb hby d2_23) ?_
    show Steps p.tables e below (T8.setTop (mkF m 24 #[.val (.ref aT), .val (.ref aC), .val (.ref aC)] [(.int (1 : Int32))])) t
    refine XS.goto X8.here hx rfl (pc0 := 24) (pc' := 28) rfl (hb hby d2_24) (by decide) (by decide) ?_
    exact k
  refine OFin.go S12 ?_
  exact finZ X8 hx Bd.notSynchronized (t := .boolean) Bd.returns (by simp) (hb hby d2_28) rfl (by decide) (by decide) (⟨rfl, N0, e8⟩)
theorem ef_rm2_2_1 (m : MethodId) (aT : Addr) (aS : Addr) : entryFrame m #[(.ref aT), (.ref aS)] 3 = mkF m 0 #[.val (.ref aT), .val (.ref aS), .unset] [] := by first | (simp [entryFrame, mkF, argsToLocals, Value.category]; done) | rfl
def Q_rm2_2_1 (Z : State)  (aC aS aT aA : Addr) (h0 : Heap) (n0 : Nat) (v : Option Value) (h : Heap) (L : List Loc) : Prop := v = some (.int (1 : Int32)) ∧ Fr n0 L ∧ h = h0
set_option maxRecDepth 65536 in
set_option maxHeartbeats 40000000 in
theorem rm2_2_1 (l : Launch) (Z : State) (a0 : Array Value) (hw : ∀ d ∈ tables_1, d.before a0 Z = true) (ws : List Jvm.Cond)  (aC aS aT aA : Addr) (h0 : Heap) (n0 : Nat) (Z0 : n0 ≤ h0.size) (FaC : Fld Z h0 aC "com/example/stowage/stowage/ip/Profile" "base" "Lcom/example/stowage/stowage/ip/Profile;" .null) (FaS : Fld Z h0 aS "com/example/stowage/stowage/ip/Profile" "base" "Lcom/example/stowage/stowage/ip/Profile;" (.ref aC)) (FaT : Fld Z h0 aT "com/example/stowage/stowage/ip/Profile" "base" "Lcom/example/stowage/stowage/ip/Profile;" (.ref aS)) (FaA : Fld Z h0 aA "com/example/stowage/stowage/ip/Profile" "base" "Lcom/example/stowage/stowage/ip/Profile;" (.ref aC)) (naCaS : aC ≠ aS) (naCaT : aC ≠ aT) (naCaA : aC ≠ aA) (naSaT : aS ≠ aT) (naSaA : aS ≠ aA) (naTaA : aT ≠ aA) :
    MetFree l (⟨"com/example/stowage/stowage/ip/Profile", "follows", "(Lcom/example/stowage/stowage/ip/Profile;)Z"⟩ : MethodName) (head1 (Jvm.Cond.code (⟨"com/example/stowage/stowage/ip/Profile", "follows", "(Lcom/example/stowage/stowage/ip/Profile;)Z"⟩ : MethodName) prog_149_method_9_code 3 (some .boolean) :: ws) ({ frames := 0, cells := 0, slots := 0, locals := 0 } : Room)) (fun a U => a = #[(.ref aT), (.ref aS)] ∧ Z.Warmed39 U.vm ∧ U.heap = h0) (fun _ _ _ _ _ => True) (fun _ U o U' => ∃ v L, o = .returned v ∧ (Q_rm2_2_1 Z aC aS aT aA h0 n0) v U'.heap L ∧ FrameEnd U o U' L ({ frames := 0, cells := 0, slots := 0, locals := 0 } : Room).cells ({ frames := 0, cells := 0, slots := 0, locals := 0 } : Room).slots) := by
  refine MetFree.of_bodySF (plainFor_of_name pn_1) hisR ?_
  intro p e s m args below meth c s₁ Bd hml0 hP hK
  obtain ⟨rfl, hZ, hh⟩ := hP
  have hx := Bd.exec
  have hby := Bd.bytes
  have hml : c.maxLocals = 3 := hml0
  have hown : s.vm.findClass "com/example/stowage/stowage/ip/Profile" = some m.cls := findClass_of_methodNamed Bd.named
  have hnm := (name_of_methodNamed Bd.named Bd.method).1
  have X0 : Stand p l e ({ frames := 0, cells := 0, slots := 0, locals := 0 } : Room) s m #[(.ref aT), (.ref aS)] below meth c s₁ [] 0 0 := Stand.of_body Bd
  have e0 : s₁.heap = h0 := by rw [← hh, Bd.state]; rfl
  have N0 := Fr.nil n0
  show OFin p e below (ORet (Q_rm2_2_1 Z aC aS aT aA h0 n0) s ({ frames := 0, cells := 0, slots := 0, locals := 0 } : Room).cells ({ frames := 0, cells := 0, slots := 0, locals := 0 } : Room).slots) (s₁.setTop (entryFrame m #[(.ref aT), (.ref aS)] 3))
  refine OFin.go (fun t k => castTop (ef_rm2_2_1 m aT aS) k) ?_
  show OFin p e below (ORet (Q_rm2_2_1 Z aC aS aT aA h0 n0) s ({ frames := 0, cells := 0, slots := 0, locals := 0 } : Room).cells ({ frames := 0, cells := 0, slots := 0, locals := 0 } : Room).slots) (s₁.setTop (mkF m 0 #[.val (.ref aT), .val (.ref aS), .unset] []))
  have S1 : ∀ t, Steps p.tables e below (s₁.setTop (mkF m 3 #[.val (.ref aT), .val (.ref aS), .val (.ref aT)] [(.ref aT)])) t → Steps p.tables e below (s₁.setTop (mkF m 0 #[.val (.ref aT), .val (.ref aS), .unset] [])) t := by
    intro t k
    show Steps p.tables e below (s₁.setTop (mkF m 0 #[.val (.ref aT), .val (.ref aS), .unset] [])) t
    refine XS.aloadN X0.here hx rfl (hb hby d2_0) rfl rfl ?_
    show Steps p.tables e below (s₁.setTop (mkF m 1 #[.val (.ref aT), .val (.ref aS), .unset] [(.ref aT)])) t
    refine XS.astoreN X0.here hx rfl (hb hby d2_1) rfl rfl (l' := #[.val (.ref aT), .val (.ref aS), .val (.ref aT)]) rfl ?_
    show Steps p.tables e below (s₁.setTop (mkF m 2 #[.val (.ref aT), .val (.ref aS), .val (.ref aT)] [])) t
    refine XS.aloadN X0.here hx rfl (hb hby d2_2) rfl rfl ?_
    exact k
  refine OFin.go S1 ?_
  refine OFin.go (fun t k => ?_ : ∀ t, Steps p.tables e below (s₁.setTop (mkF m 6 #[.val (.ref aT), .val (.ref aS), .val (.ref aT)] [])) t → Steps p.tables e below (s₁.setTop (mkF m 3 #[.val (.ref aT), .val (.ref aS), .val (.ref aT)] [(.ref aT)])) t) ?_
  · show Steps p.tables e below (s₁.setTop (mkF m 3 #[.val (.ref aT), .val (.ref aS), .val (.ref aT)] [(.ref aT)])) t
    refine XS.ifnullNo X0.here hx rfl (hb hby d2_3) rfl ?_
    exact k
  have S2 : ∀ t, Steps p.tables e below (s₁.setTop (mkF m 8 #[.val (.ref aT), .val (.ref aS), .val (.ref aT)] [(.ref aS), (.ref aT)])) t → Steps p.tables e below (s₁.setTop (mkF m 6 #[.val (.ref aT), .val (.ref aS), .val (.ref aT)] [])) t := by
    intro t k
    show Steps p.tables e below (s₁.setTop (mkF m 6 #[.val (.ref aT), .val (.ref aS), .val (.ref aT)] [])) t
    refine XS.aloadN X0.here hx rfl (hb hby d2_6) rfl rfl ?_
    show Steps p.tables e below (s₁.setTop (mkF m 7 #[.val (.ref aT), .val (.ref aS), .val (.ref aT)] [(.ref aT)])) t
    refine XS.aloadN X0.here hx rfl (hb hby d2_7) rfl rfl ?_
    exact k
  refine OFin.go S2 ?_
  refine OFin.go (fun t k => ?_ : ∀ t, Steps p.tables e below (s₁.setTop (mkF m 11 #[.val (.ref aT), .val (.ref aS), .val (.ref aT)] [])) t → Steps p.tables e below (s₁.setTop (mkF m 8 #[.val (.ref aT), .val (.ref aS), .val (.ref aT)] [(.ref aS), (.ref aT)])) t) ?_
  · show Steps p.tables e below (s₁.setTop (mkF m 8 #[.val (.ref aT), .val (.ref aS), .val (.ref aT)] [(.ref aS), (.ref aT)])) t
    refine Jvm.RoadKit.acmp (g := (mkF m 8 #[.val (.ref aT), .val (.ref aS), .val (.ref aT)] [(.ref aS), (.ref aT)])) X0 hx rfl rfl rfl (pc0 := 8) (pc' := 11) (same := false) rfl (hb hby d2_8) rfl (decide_eq_false fun q => (Ne.symm naSaT) (Value.ref.inj q)) (by decide) (by decide) ?_
    exact k
  have S3 : ∀ t, Steps p.tables e below (s₁.setTop (mkF m 12 #[.val (.ref aT), .val (.ref aS), .val (.ref aT)] [(.ref aT)])) t → Steps p.tables e below (s₁.setTop (mkF m 11 #[.val (.ref aT), .val (.ref aS), .val (.ref aT)] [])) t := by
    intro t k
    show Steps p.tables e below (s₁.setTop (mkF m 11 #[.val (.ref aT), .val (.ref aS), .val (.ref aT)] [])) t
    refine XS.aloadN X0.here hx rfl (hb hby d2_11) rfl rfl ?_
    exact k
  refine OFin.go S3 ?_
  obtain ⟨T4, X4, e4, st4⟩ := getF X0 hx hZ hown (host := "") (Or.inl (hw _ (List.mem_of_getElem? (i := 15) rfl))) Via.refl e0 FaT (g := (mkF m 12 #[.val (.ref aT), .val (.ref aS), .val (.ref aT)] [(.ref aT)])) rfl rfl (hb hby d2_12)
  refine OFin.go st4 ?_
  show OFin p e below _ (T4.setTop (mkF m 15 #[.val (.ref aT), .val (.ref aS), .val (.ref aT)] [(.ref aS)]))
  have S5 : ∀ t, Steps p.tables e below (T4.setTop (mkF m 3 #[.val (.ref aT), .val (.ref aS), .val (.ref aS)] [(.ref aS)])) t → Steps p.tables e below (T4.setTop (mkF m 15 #[.val (.ref aT), .val (.ref aS), .val (.ref aT)] [(.ref aS)])) t := by
    intro t k
    show Steps p.tables e below (T4.setTop (mkF m 15 #[.val (.ref aT), .val (.ref aS), .val (.ref aT)] [(.ref aS)])) t
    refine XS.astoreN X4.here hx rfl (hb hby d2_15) rfl rfl (l' := #[.val (.ref aT), .val (.ref aS), .val (.ref aS)]) rfl ?_
    show Steps p.tables e below (T4.setTop (mkF m 16 #[.val (.ref aT), .val (.ref aS), .val (.ref aS)] [])) t
    refine XS.goto X4.here hx rfl (pc0 := 16) (pc' := 2) rfl (hb hby d2_16) (by decide) (by decide) ?_
    show Steps p.tables e below (T4.setTop (mkF m 2 #[.val (.ref aT), .val (.ref aS), .val (.ref aS)] [])) t
    refine XS.aloadN X4.here hx rfl (hb hby d2_2) rfl rfl ?_
    exact k
  refine OFin.go S5 ?_
  refine OFin.go (fun t k => ?_ : ∀ t, Steps p.tables e below (T4.setTop (mkF m 6 #[.val (.ref aT), .val (.ref aS), .val (.ref aS)] [])) t → Steps p.tables e below (T4.setTop (mkF m 3 #[.val (.ref aT), .val (.ref aS), .val (.ref aS)] [(.ref aS)])) t) ?_
  · show Steps p.tables e below (T4.setTop (mkF m 3 #[.val (.ref aT), .val (.ref aS), .val (.ref aS)] [(.ref aS)])) t
    refine XS.ifnullNo X4.here hx rfl (hb hby d2_3) rfl ?_
    exact k
  have S6 : ∀ t, Steps p.tables e below (T4.setTop (mkF m 8 #[.val (.ref aT), .val (.ref aS), .val (.ref aS)] [(.ref aS), (.ref aS)])) t → Steps p.tables e below (T4.setTop (mkF m 6 #[.val (.ref aT), .val (.ref aS), .val (.ref aS)] [])) t := by
    intro t k
    show Steps p.tables e below (T4.setTop (mkF m 6 #[.val (.ref aT), .val (.ref aS), .val (.ref aS)] [])) t
    refine XS.aloadN X4.here hx rfl (hb hby d2_6) rfl rfl ?_
    show Steps p.tables e below (T4.setTop (mkF m 7 #[.val (.ref aT), .val (.ref aS), .val (.ref aS)] [(.ref aS)])) t
    refine XS.aloadN X4.here hx rfl (hb hby d2_7) rfl rfl ?_
    exact k
  refine OFin.go S6 ?_
  refine OFin.go (fun t k => ?_ : ∀ t, Steps p.tables e below (T4.setTop (mkF m 19 #[.val (.ref aT), .val (.ref aS), .val (.ref aS)] [])) t → Steps p.tables e below (T4.setTop (mkF m 8 #[.val (.ref aT), .val (.ref aS), .val (.ref aS)] [(.ref aS), (.ref aS)])) t) ?_
  · show Steps p.tables e below (T4.setTop (mkF m 8 #[.val (.ref aT), .val (.ref aS), .val (.ref aS)] [(.ref aS), (.ref aS)])) t
    refine Jvm.RoadKit.acmp (g := (mkF m 8 #[.val (.ref aT), .val (.ref aS), .val (.ref aS)] [(.ref aS), (.ref aS)])) X4 hx rfl rfl rfl (pc0 := 8) (pc' := 19) (same := true) rfl (hb hby d2_8) rfl (decide_eq_true rfl) (by decide) (by decide) ?_
    exact k
  have S7 : ∀ t, Steps p.tables e below (T4.setTop (mkF m 20 #[.val (.ref aT), .val (.ref aS), .val (.ref aS)] [(.ref aS)])) t → Steps p.tables e below (T4.setTop (mkF m 19 #[.val (.ref aT), .val (.ref aS), .val (.ref aS)] [])) t := by
    intro t k
    show Steps p.tables e below (T4.setTop (mkF m 19 #[.val (.ref aT), .val (.ref aS), .val (.ref aS)] [])) t
    refine XS.aloadN X4.here hx rfl (hb hby d2_19) rfl rfl ?_
    exact k
  refine OFin.go S7 ?_
  refine OFin.go (fun t k => ?_ : ∀ t, Steps p.tables e below (T4.setTop (mkF m 23 #[.val (.ref aT), .val (.ref aS), .val (.ref aS)] [])) t → Steps p.tables e below (T4.setTop (mkF m 20 #[.val (.ref aT), .val (.ref aS), .val (.ref aS)] [(.ref aS)])) t) ?_
  · show Steps p.tables e below (T4.setTop (mkF m 20 #[.val (.ref aT), .val (.ref aS), .val (.ref aS)] [(.ref aS)])) t
    refine XS.ifnullNo X4.here hx rfl (hb hby d2_20) rfl ?_
    exact k
  have S8 : ∀ t, Steps p.tables e below (T4.setTop (mkF m 28 #[.val (.ref aT), .val (.ref aS), .val (.ref aS)] [(.int (1 : Int32))])) t → Steps p.tables e below (T4.setTop (mkF m 23 #[.val (.ref aT), .val (.ref aS), .val (.ref aS)] [])) t := by
    intro t k
    show Steps p.tables e below (T4.setTop (mkF m 23 #[.val (.ref aT), .val (.ref aS), .val (.ref aS)] [])) t
    refine XS.iconst X4.here hx rfl (hb hby d2_23) ?_
    show Steps p.tables e below (T4.setTop (mkF m 24 #[.val (.ref aT), .val (.ref aS), .val (.ref aS)] [(.int (1 : Int32))])) t
    refine XS.goto X4.here hx rfl (pc0 := 24) (pc' := 28) rfl (hb hby d2_24) (by decide) (by decide) ?_
    exact k
  refine OFin.go S8 ?_
  exact finZ X4 hx Bd.notSynchronized (t := .boolean) Bd.returns (by simp) (hb hby d2_28) rfl (by decide) (by decide) (⟨rfl, N0, e4⟩)
theorem ef_rm2_2_2 (m : MethodId) (aT : Addr) : entryFrame m #[(.ref aT), (.ref aT)] 3 = mkF m 0 #[.val (.ref aT), .val (.ref aT), .unset] [] := by first | (simp [entryFrame, mkF, argsToLocals, Value.category]; done) | rfl
def Q_rm2_2_2 (Z : State)  (aC aS aT aA : Addr) (h0 : Heap) (n0 : Nat) (v : Option Value) (h : Heap) (L : List Loc) : Prop := v = some (.int (1 : Int32)) ∧ Fr n0 L ∧ h = h0
set_option maxRecDepth 65536 in
set_option maxHeartbeats 40000000 in
theorem rm2_2_2 (l : Launch) (Z : State) (a0 : Array Value) (hw : ∀ d ∈ tables_1, d.before a0 Z = true) (ws : List Jvm.Cond)  (aC aS aT aA : Addr) (h0 : Heap) (n0 : Nat) (Z0 : n0 ≤ h0.size) (FaC : Fld Z h0 aC "com/example/stowage/stowage/ip/Profile" "base" "Lcom/example/stowage/stowage/ip/Profile;" .null) (FaS : Fld Z h0 aS "com/example/stowage/stowage/ip/Profile" "base" "Lcom/example/stowage/stowage/ip/Profile;" (.ref aC)) (FaT : Fld Z h0 aT "com/example/stowage/stowage/ip/Profile" "base" "Lcom/example/stowage/stowage/ip/Profile;" (.ref aS)) (FaA : Fld Z h0 aA "com/example/stowage/stowage/ip/Profile" "base" "Lcom/example/stowage/stowage/ip/Profile;" (.ref aC)) (naCaS : aC ≠ aS) (naCaT : aC ≠ aT) (naCaA : aC ≠ aA) (naSaT : aS ≠ aT) (naSaA : aS ≠ aA) (naTaA : aT ≠ aA) :
    MetFree l (⟨"com/example/stowage/stowage/ip/Profile", "follows", "(Lcom/example/stowage/stowage/ip/Profile;)Z"⟩ : MethodName) (head1 (Jvm.Cond.code (⟨"com/example/stowage/stowage/ip/Profile", "follows", "(Lcom/example/stowage/stowage/ip/Profile;)Z"⟩ : MethodName) prog_149_method_9_code 3 (some .boolean) :: ws) ({ frames := 0, cells := 0, slots := 0, locals := 0 } : Room)) (fun a U => a = #[(.ref aT), (.ref aT)] ∧ Z.Warmed39 U.vm ∧ U.heap = h0) (fun _ _ _ _ _ => True) (fun _ U o U' => ∃ v L, o = .returned v ∧ (Q_rm2_2_2 Z aC aS aT aA h0 n0) v U'.heap L ∧ FrameEnd U o U' L ({ frames := 0, cells := 0, slots := 0, locals := 0 } : Room).cells ({ frames := 0, cells := 0, slots := 0, locals := 0 } : Room).slots) := by
  refine MetFree.of_bodySF (plainFor_of_name pn_1) hisR ?_
  intro p e s m args below meth c s₁ Bd hml0 hP hK
  obtain ⟨rfl, hZ, hh⟩ := hP
  have hx := Bd.exec
  have hby := Bd.bytes
  have hml : c.maxLocals = 3 := hml0
  have hown : s.vm.findClass "com/example/stowage/stowage/ip/Profile" = some m.cls := findClass_of_methodNamed Bd.named
  have hnm := (name_of_methodNamed Bd.named Bd.method).1
  have X0 : Stand p l e ({ frames := 0, cells := 0, slots := 0, locals := 0 } : Room) s m #[(.ref aT), (.ref aT)] below meth c s₁ [] 0 0 := Stand.of_body Bd
  have e0 : s₁.heap = h0 := by rw [← hh, Bd.state]; rfl
  have N0 := Fr.nil n0
  show OFin p e below (ORet (Q_rm2_2_2 Z aC aS aT aA h0 n0) s ({ frames := 0, cells := 0, slots := 0, locals := 0 } : Room).cells ({ frames := 0, cells := 0, slots := 0, locals := 0 } : Room).slots) (s₁.setTop (entryFrame m #[(.ref aT), (.ref aT)] 3))
  refine OFin.go (fun t k => castTop (ef_rm2_2_2 m aT) k) ?_
  show OFin p e below (ORet (Q_rm2_2_2 Z aC aS aT aA h0 n0) s ({ frames := 0, cells := 0, slots := 0, locals := 0 } : Room).cells ({ frames := 0, cells := 0, slots := 0, locals := 0 } : Room).slots) (s₁.setTop (mkF m 0 #[.val (.ref aT), .val (.ref aT), .unset] []))
  have S1 : ∀ t, Steps p.tables e below (s₁.setTop (mkF m 3 #[.val (.ref aT), .val (.ref aT), .val (.ref aT)] [(.ref aT)])) t → Steps p.tables e below (s₁.setTop (mkF m 0 #[.val (.ref aT), .val (.ref aT), .unset] [])) t := by
    intro t k
    show Steps p.tables e below (s₁.setTop (mkF m 0 #[.val (.ref aT), .val (.ref aT), .unset] [])) t
    refine XS.aloadN X0.here hx rfl (hb hby d2_0) rfl rfl ?_
    show Steps p.tables e below (s₁.setTop (mkF m 1 #[.val (.ref aT), .val (.ref aT), .unset] [(.ref aT)])) t
    refine XS.astoreN X0.here hx rfl (hb hby d2_1) rfl rfl (l' := #[.val (.ref aT), .val (.ref aT), .val (.ref aT)]) rfl ?_
    show Steps p.tables e below (s₁.setTop (mkF m 2 #[.val (.ref aT), .val (.ref aT), .val (.ref aT)] [])) t
    refine XS.aloadN X0.here hx rfl (hb hby d2_2) rfl rfl ?_
    exact k
  refine OFin.go S1 ?_
  refine OFin.go (fun t k => ?_ : ∀ t, Steps p.tables e below (s₁.setTop (mkF m 6 #[.val (.ref aT), .val (.ref aT), .val (.ref aT)] [])) t → Steps p.tables e below (s₁.setTop (mkF m 3 #[.val (.ref aT), .val (.ref aT), .val (.ref aT)] [(.ref aT)])) t) ?_
  · show Steps p.tables e below (s₁.setTop (mkF m 3 #[.val (.ref aT), .val (.ref aT), .val (.ref aT)] [(.ref aT)])) t
    refine XS.ifnullNo X0.here hx rfl (hb hby d2_3) rfl ?_
    exact k
  have S2 : ∀ t, Steps p.tables e below (s₁.setTop (mkF m 8 #[.val (.ref aT), .val (.ref aT), .val (.ref aT)] [(.ref aT), (.ref aT)])) t → Steps p.tables e below (s₁.setTop (mkF m 6 #[.val (.ref aT), .val (.ref aT), .val (.ref aT)] [])) t := by
    intro t k
    show Steps p.tables e below (s₁.setTop (mkF m 6 #[.val (.ref aT), .val (.ref aT), .val (.ref aT)] [])) t
    refine XS.aloadN X0.here hx rfl (hb hby d2_6) rfl rfl ?_
    show Steps p.tables e below (s₁.setTop (mkF m 7 #[.val (.ref aT), .val (.ref aT), .val (.ref aT)] [(.ref aT)])) t
    refine XS.aloadN X0.here hx rfl (hb hby d2_7) rfl rfl ?_
    exact k
  refine OFin.go S2 ?_
  refine OFin.go (fun t k => ?_ : ∀ t, Steps p.tables e below (s₁.setTop (mkF m 19 #[.val (.ref aT), .val (.ref aT), .val (.ref aT)] [])) t → Steps p.tables e below (s₁.setTop (mkF m 8 #[.val (.ref aT), .val (.ref aT), .val (.ref aT)] [(.ref aT), (.ref aT)])) t) ?_
  · show Steps p.tables e below (s₁.setTop (mkF m 8 #[.val (.ref aT), .val (.ref aT), .val (.ref aT)] [(.ref aT), (.ref aT)])) t
    refine Jvm.RoadKit.acmp (g := (mkF m 8 #[.val (.ref aT), .val (.ref aT), .val (.ref aT)] [(.ref aT), (.ref aT)])) X0 hx rfl rfl rfl (pc0 := 8) (pc' := 19) (same := true) rfl (hb hby d2_8) rfl (decide_eq_true rfl) (by decide) (by decide) ?_
    exact k
  have S3 : ∀ t, Steps p.tables e below (s₁.setTop (mkF m 20 #[.val (.ref aT), .val (.ref aT), .val (.ref aT)] [(.ref aT)])) t → Steps p.tables e below (s₁.setTop (mkF m 19 #[.val (.ref aT), .val (.ref aT), .val (.ref aT)] [])) t := by
    intro t k
    show Steps p.tables e below (s₁.setTop (mkF m 19 #[.val (.ref aT), .val (.ref aT), .val (.ref aT)] [])) t
    refine XS.aloadN X0.here hx rfl (hb hby d2_19) rfl rfl ?_
    exact k
  refine OFin.go S3 ?_
  refine OFin.go (fun t k => ?_ : ∀ t, Steps p.tables e below (s₁.setTop (mkF m 23 #[.val (.ref aT), .val (.ref aT), .val (.ref aT)] [])) t → Steps p.tables e below (s₁.setTop (mkF m 20 #[.val (.ref aT), .val (.ref aT), .val (.ref aT)] [(.ref aT)])) t) ?_
  · show Steps p.tables e below (s₁.setTop (mkF m 20 #[.val (.ref aT), .val (.ref aT), .val (.ref aT)] [(.ref aT)])) t
    refine XS.ifnullNo X0.here hx rfl (hb hby d2_20) rfl ?_
    exact k
  have S4 : ∀ t, Steps p.tables e below (s₁.setTop (mkF m 28 #[.val (.ref aT), .val (.ref aT), .val (.ref aT)] [(.int (1 : Int32))])) t → Steps p.tables e below (s₁.setTop (mkF m 23 #[.val (.ref aT), .val (.ref aT), .val (.ref aT)] [])) t := by
    intro t k
    show Steps p.tables e below (s₁.setTop (mkF m 23 #[.val (.ref aT), .val (.ref aT), .val (.ref aT)] [])) t
    refine XS.iconst X0.here hx rfl (hb hby d2_23) ?_
    show Steps p.tables e below (s₁.setTop (mkF m 24 #[.val (.ref aT), .val (.ref aT), .val (.ref aT)] [(.int (1 : Int32))])) t
    refine XS.goto X0.here hx rfl (pc0 := 24) (pc' := 28) rfl (hb hby d2_24) (by decide) (by decide) ?_
    exact k
  refine OFin.go S4 ?_
  exact finZ X0 hx Bd.notSynchronized (t := .boolean) Bd.returns (by simp) (hb hby d2_28) rfl (by decide) (by decide) (⟨rfl, N0, e0⟩)
theorem ef_rm2_2_3 (m : MethodId) (aT : Addr) (aA : Addr) : entryFrame m #[(.ref aT), (.ref aA)] 3 = mkF m 0 #[.val (.ref aT), .val (.ref aA), .unset] [] := by first | (simp [entryFrame, mkF, argsToLocals, Value.category]; done) | rfl
def Q_rm2_2_3 (Z : State)  (aC aS aT aA : Addr) (h0 : Heap) (n0 : Nat) (v : Option Value) (h : Heap) (L : List Loc) : Prop := v = some (.int (0 : Int32)) ∧ Fr n0 L ∧ h = h0
set_option maxRecDepth 65536 in
set_option maxHeartbeats 40000000 in
theorem rm2_2_3 (l : Launch) (Z : State) (a0 : Array Value) (hw : ∀ d ∈ tables_1, d.before a0 Z = true) (ws : List Jvm.Cond)  (aC aS aT aA : Addr) (h0 : Heap) (n0 : Nat) (Z0 : n0 ≤ h0.size) (FaC : Fld Z h0 aC "com/example/stowage/stowage/ip/Profile" "base" "Lcom/example/stowage/stowage/ip/Profile;" .null) (FaS : Fld Z h0 aS "com/example/stowage/stowage/ip/Profile" "base" "Lcom/example/stowage/stowage/ip/Profile;" (.ref aC)) (FaT : Fld Z h0 aT "com/example/stowage/stowage/ip/Profile" "base" "Lcom/example/stowage/stowage/ip/Profile;" (.ref aS)) (FaA : Fld Z h0 aA "com/example/stowage/stowage/ip/Profile" "base" "Lcom/example/stowage/stowage/ip/Profile;" (.ref aC)) (naCaS : aC ≠ aS) (naCaT : aC ≠ aT) (naCaA : aC ≠ aA) (naSaT : aS ≠ aT) (naSaA : aS ≠ aA) (naTaA : aT ≠ aA) :
    MetFree l (⟨"com/example/stowage/stowage/ip/Profile", "follows", "(Lcom/example/stowage/stowage/ip/Profile;)Z"⟩ : MethodName) (head1 (Jvm.Cond.code (⟨"com/example/stowage/stowage/ip/Profile", "follows", "(Lcom/example/stowage/stowage/ip/Profile;)Z"⟩ : MethodName) prog_149_method_9_code 3 (some .boolean) :: ws) ({ frames := 0, cells := 0, slots := 0, locals := 0 } : Room)) (fun a U => a = #[(.ref aT), (.ref aA)] ∧ Z.Warmed39 U.vm ∧ U.heap = h0) (fun _ _ _ _ _ => True) (fun _ U o U' => ∃ v L, o = .returned v ∧ (Q_rm2_2_3 Z aC aS aT aA h0 n0) v U'.heap L ∧ FrameEnd U o U' L ({ frames := 0, cells := 0, slots := 0, locals := 0 } : Room).cells ({ frames := 0, cells := 0, slots := 0, locals := 0 } : Room).slots) := by
  refine MetFree.of_bodySF (plainFor_of_name pn_1) hisR ?_
  intro p e s m args below meth c s₁ Bd hml0 hP hK
  obtain ⟨rfl, hZ, hh⟩ := hP
  have hx := Bd.exec
  have hby := Bd.bytes
  have hml : c.maxLocals = 3 := hml0
  have hown : s.vm.findClass "com/example/stowage/stowage/ip/Profile" = some m.cls := findClass_of_methodNamed Bd.named
  have hnm := (name_of_methodNamed Bd.named Bd.method).1
  have X0 : Stand p l e ({ frames := 0, cells := 0, slots := 0, locals := 0 } : Room) s m #[(.ref aT), (.ref aA)] below meth c s₁ [] 0 0 := Stand.of_body Bd
  have e0 : s₁.heap = h0 := by rw [← hh, Bd.state]; rfl
  have N0 := Fr.nil n0
  show OFin p e below (ORet (Q_rm2_2_3 Z aC aS aT aA h0 n0) s ({ frames := 0, cells := 0, slots := 0, locals := 0 } : Room).cells ({ frames := 0, cells := 0, slots := 0, locals := 0 } : Room).slots) (s₁.setTop (entryFrame m #[(.ref aT), (.ref aA)] 3))
  refine OFin.go (fun t k => castTop (ef_rm2_2_3 m aT aA) k) ?_
  show OFin p e below (ORet (Q_rm2_2_3 Z aC aS aT aA h0 n0) s ({ frames := 0, cells := 0, slots := 0, locals := 0 } : Room).cells ({ frames := 0, cells := 0, slots := 0, locals := 0 } : Room).slots) (s₁.setTop (mkF m 0 #[.val (.ref aT), .val (.ref aA), .unset] []))
  have S1 : ∀ t, Steps p.tables e below (s₁.setTop (mkF m 3 #[.val (.ref aT), .val (.ref aA), .val (.ref aT)] [(.ref aT)])) t → Steps p.tables e below (s₁.setTop (mkF m 0 #[.val (.ref aT), .val (.ref aA), .unset] [])) t := by
    intro t k
    show Steps p.tables e below (s₁.setTop (mkF m 0 #[.val (.ref aT), .val (.ref aA), .unset] [])) t
    refine XS.aloadN X0.here hx rfl (hb hby d2_0) rfl rfl ?_
    show Steps p.tables e below (s₁.setTop (mkF m 1 #[.val (.ref aT), .val (.ref aA), .unset] [(.ref aT)])) t
    refine XS.astoreN X0.here hx rfl (hb hby d2_1) rfl rfl (l' := #[.val (.ref aT), .val (.ref aA), .val (.ref aT)]) rfl ?_
    show Steps p.tables e below (s₁.setTop (mkF m 2 #[.val (.ref aT), .val (.ref aA), .val (.ref aT)] [])) t
    refine XS.aloadN X0.here hx rfl (hb hby d2_2) rfl rfl ?_
    exact k
  refine OFin.go S1 ?_
  refine OFin.go (fun t k => ?_ : ∀ t, Steps p.tables e below (s₁.setTop (mkF m 6 #[.val (.ref aT), .val (.ref aA), .val (.ref aT)] [])) t → Steps p.tables e below (s₁.setTop (mkF m 3 #[.val (.ref aT), .val (.ref aA), .val (.ref aT)] [(.ref aT)])) t) ?_
  · show Steps p.tables e below (s₁.setTop (mkF m 3 #[.val (.ref aT), .val (.ref aA), .val (.ref aT)] [(.ref aT)])) t
    refine XS.ifnullNo X0.here hx rfl (hb hby d2_3) rfl ?_
    exact k
  have S2 : ∀ t, Steps p.tables e below (s₁.setTop (mkF m 8 #[.val (.ref aT), .val (.ref aA), .val (.ref aT)] [(.ref aA), (.ref aT)])) t → Steps p.tables e below (s₁.setTop (mkF m 6 #[.val (.ref aT), .val (.ref aA), .val (.ref aT)] [])) t := by
    intro t k
    show Steps p.tables e below (s₁.setTop (mkF m 6 #[.val (.ref aT), .val (.ref aA), .val (.ref aT)] [])) t
    refine XS.aloadN X0.here hx rfl (hb hby d2_6) rfl rfl ?_
    show Steps p.tables e below (s₁.setTop (mkF m 7 #[.val (.ref aT), .val (.ref aA), .val (.ref aT)] [(.ref aT)])) t
    refine XS.aloadN X0.here hx rfl (hb hby d2_7) rfl rfl ?_
    exact k
  refine OFin.go S2 ?_
  refine OFin.go (fun t k => ?_ : ∀ t, Steps p.tables e below (s₁.setTop (mkF m 11 #[.val (.ref aT), .val (.ref aA), .val (.ref aT)] [])) t → Steps p.tables e below (s₁.setTop (mkF m 8 #[.val (.ref aT), .val (.ref aA), .val (.ref aT)] [(.ref aA), (.ref aT)])) t) ?_
  · show Steps p.tables e below (s₁.setTop (mkF m 8 #[.val (.ref aT), .val (.ref aA), .val (.ref aT)] [(.ref aA), (.ref aT)])) t
    refine Jvm.RoadKit.acmp (g := (mkF m 8 #[.val (.ref aT), .val (.ref aA), .val (.ref aT)] [(.ref aA), (.ref aT)])) X0 hx rfl rfl rfl (pc0 := 8) (pc' := 11) (same := false) rfl (hb hby d2_8) rfl (decide_eq_false fun q => naTaA (Value.ref.inj q)) (by decide) (by decide) ?_
    exact k
  have S3 : ∀ t, Steps p.tables e below (s₁.setTop (mkF m 12 #[.val (.ref aT), .val (.ref aA), .val (.ref aT)] [(.ref aT)])) t → Steps p.tables e below (s₁.setTop (mkF m 11 #[.val (.ref aT), .val (.ref aA), .val (.ref aT)] [])) t := by
    intro t k
    show Steps p.tables e below (s₁.setTop (mkF m 11 #[.val (.ref aT), .val (.ref aA), .val (.ref aT)] [])) t
    refine XS.aloadN X0.here hx rfl (hb hby d2_11) rfl rfl ?_
    exact k
  refine OFin.go S3 ?_
  obtain ⟨T4, X4, e4, st4⟩ := getF X0 hx hZ hown (host := "") (Or.inl (hw _ (List.mem_of_getElem? (i := 15) rfl))) Via.refl e0 FaT (g := (mkF m 12 #[.val (.ref aT), .val (.ref aA), .val (.ref aT)] [(.ref aT)])) rfl rfl (hb hby d2_12)
  refine OFin.go st4 ?_
  show OFin p e below _ (T4.setTop (mkF m 15 #[.val (.ref aT), .val (.ref aA), .val (.ref aT)] [(.ref aS)]))
  have S5 : ∀ t, Steps p.tables e below (T4.setTop (mkF m 3 #[.val (.ref aT), .val (.ref aA), .val (.ref aS)] [(.ref aS)])) t → Steps p.tables e below (T4.setTop (mkF m 15 #[.val (.ref aT), .val (.ref aA), .val (.ref aT)] [(.ref aS)])) t := by
    intro t k
    show Steps p.tables e below (T4.setTop (mkF m 15 #[.val (.ref aT), .val (.ref aA), .val (.ref aT)] [(.ref aS)])) t
    refine XS.astoreN X4.here hx rfl (hb hby d2_15) rfl rfl (l' := #[.val (.ref aT), .val (.ref aA), .val (.ref aS)]) rfl ?_
    show Steps p.tables e below (T4.setTop (mkF m 16 #[.val (.ref aT), .val (.ref aA), .val (.ref aS)] [])) t
    refine XS.goto X4.here hx rfl (pc0 := 16) (pc' := 2) rfl (hb hby d2_16) (by decide) (by decide) ?_
    show Steps p.tables e below (T4.setTop (mkF m 2 #[.val (.ref aT), .val (.ref aA), .val (.ref aS)] [])) t
    refine XS.aloadN X4.here hx rfl (hb hby d2_2) rfl rfl ?_
    exact k
  refine OFin.go S5 ?_
  refine OFin.go (fun t k => ?_ : ∀ t, Steps p.tables e below (T4.setTop (mkF m 6 #[.val (.ref aT), .val (.ref aA), .val (.ref aS)] [])) t → Steps p.tables e below (T4.setTop (mkF m 3 #[.val (.ref aT), .val (.ref aA), .val (.ref aS)] [(.ref aS)])) t) ?_
  · show Steps p.tables e below (T4.setTop (mkF m 3 #[.val (.ref aT), .val (.ref aA), .val (.ref aS)] [(.ref aS)])) t
    refine XS.ifnullNo X4.here hx rfl (hb hby d2_3) rfl ?_
    exact k
  have S6 : ∀ t, Steps p.tables e below (T4.setTop (mkF m 8 #[.val (.ref aT), .val (.ref aA), .val (.ref aS)] [(.ref aA), (.ref aS)])) t → Steps p.tables e below (T4.setTop (mkF m 6 #[.val (.ref aT), .val (.ref aA), .val (.ref aS)] [])) t := by
    intro t k
    show Steps p.tables e below (T4.setTop (mkF m 6 #[.val (.ref aT), .val (.ref aA), .val (.ref aS)] [])) t
    refine XS.aloadN X4.here hx rfl (hb hby d2_6) rfl rfl ?_
    show Steps p.tables e below (T4.setTop (mkF m 7 #[.val (.ref aT), .val (.ref aA), .val (.ref aS)] [(.ref aS)])) t
    refine XS.aloadN X4.here hx rfl (hb hby d2_7) rfl rfl ?_
    exact k
  refine OFin.go S6 ?_
  refine OFin.go (fun t k => ?_ : ∀ t, Steps p.tables e below (T4.setTop (mkF m 11 #[.val (.ref aT), .val (.ref aA), .val (.ref aS)] [])) t → Steps p.tables e below (T4.setTop (mkF m 8 #[.val (.ref aT), .val (.ref aA), .val (.ref aS)] [(.ref aA), (.ref aS)])) t) ?_
  · show Steps p.tables e below (T4.setTop (mkF m 8 #[.val (.ref aT), .val (.ref aA), .val (.ref aS)] [(.ref aA), (.ref aS)])) t
    refine Jvm.RoadKit.acmp (g := (mkF m 8 #[.val (.ref aT), .val (.ref aA), .val (.ref aS)] [(.ref aA), (.ref aS)])) X4 hx rfl rfl rfl (pc0 := 8) (pc' := 11) (same := false) rfl (hb hby d2_8) rfl (decide_eq_false fun q => naSaA (Value.ref.inj q)) (by decide) (by decide) ?_
    exact k
  have S7 : ∀ t, Steps p.tables e below (T4.setTop (mkF m 12 #[.val (.ref aT), .val (.ref aA), .val (.ref aS)] [(.ref aS)])) t → Steps p.tables e below (T4.setTop (mkF m 11 #[.val (.ref aT), .val (.ref aA), .val (.ref aS)] [])) t := by
    intro t k
    show Steps p.tables e below (T4.setTop (mkF m 11 #[.val (.ref aT), .val (.ref aA), .val (.ref aS)] [])) t
    refine XS.aloadN X4.here hx rfl (hb hby d2_11) rfl rfl ?_
    exact k
  refine OFin.go S7 ?_
  obtain ⟨T8, X8, e8, st8⟩ := getF X4 hx hZ hown (host := "") (Or.inl (hw _ (List.mem_of_getElem? (i := 15) rfl))) Via.refl e4 FaS (g := (mkF m 12 #[.val (.ref aT), .val (.ref aA), .val (.ref aS)] [(.ref aS)])) rfl rfl (hb hby d2_12)
  refine OFin.go st8 ?_
  show OFin p e below _ (T8.setTop (mkF m 15 #[.val (.ref aT), .val (.ref aA), .val (.ref aS)] [(.ref aC)]))
  have S9 : ∀ t, Steps p.tables e below (T8.setTop (mkF m 3 #[.val (.ref aT), .val (.ref aA), .val (.ref aC)] [(.ref aC)])) t → Steps p.tables e below (T8.setTop (mkF m 15 #[.val (.ref aT), .val (.ref aA), .val (.ref aS)] [(.ref aC)])) t := by
    intro t k
    show Steps p.tables e below (T8.setTop (mkF m 15 #[.val (.ref aT), .val (.ref aA), .val (.ref aS)] [(.ref aC)])) t
    refine XS.astoreN X8.here hx rfl (hb hby d2_15) rfl rfl (l' := #[.val (.ref aT), .val (.ref aA), .val (.ref aC)]) rfl ?_
    show Steps p.tables e below (T8.setTop (mkF m 16 #[.val (.ref aT), .val (.ref aA), .val (.ref aC)] [])) t
    refine XS.goto X8.here hx rfl (pc0 := 16) (pc' := 2) rfl (hb hby d2_16) (by decide) (by decide) ?_
    show Steps p.tables e below (T8.setTop (mkF m 2 #[.val (.ref aT), .val (.ref aA), .val (.ref aC)] [])) t
    refine XS.aloadN X8.here hx rfl (hb hby d2_2) rfl rfl ?_
    exact k
  refine OFin.go S9 ?_
  refine OFin.go (fun t k => ?_ : ∀ t, Steps p.tables e below (T8.setTop (mkF m 6 #[.val (.ref aT), .val (.ref aA), .val (.ref aC)] [])) t → Steps p.tables e below (T8.setTop (mkF m 3 #[.val (.ref aT), .val (.ref aA), .val (.ref aC)] [(.ref aC)])) t) ?_
  · show Steps p.tables e below (T8.setTop (mkF m 3 #[.val (.ref aT), .val (.ref aA), .val (.ref aC)] [(.ref aC)])) t
    refine XS.ifnullNo X8.here hx rfl (hb hby d2_3) rfl ?_
    exact k
  have S10 : ∀ t, Steps p.tables e below (T8.setTop (mkF m 8 #[.val (.ref aT), .val (.ref aA), .val (.ref aC)] [(.ref aA), (.ref aC)])) t → Steps p.tables e below (T8.setTop (mkF m 6 #[.val (.ref aT), .val (.ref aA), .val (.ref aC)] [])) t := by
    intro t k
    show Steps p.tables e below (T8.setTop (mkF m 6 #[.val (.ref aT), .val (.ref aA), .val (.ref aC)] [])) t
    refine XS.aloadN X8.here hx rfl (hb hby d2_6) rfl rfl ?_
    show Steps p.tables e below (T8.setTop (mkF m 7 #[.val (.ref aT), .val (.ref aA), .val (.ref aC)] [(.ref aC)])) t
    refine XS.aloadN X8.here hx rfl (hb hby d2_7) rfl rfl ?_
    exact k
  refine OFin.go S10 ?_
  refine OFin.go (fun t k => ?_ : ∀ t, Steps p.tables e below (T8.setTop (mkF m 11 #[.val (.ref aT), .val (.ref aA), .val (.ref aC)] [])) t → Steps p.tables e below (T8.setTop (mkF m 8 #[.val (.ref aT), .val (.ref aA), .val (.ref aC)] [(.ref aA), (.ref aC)])) t) ?_
  · show Steps p.tables e below (T8.setTop (mkF m 8 #[.val (.ref aT), .val (.ref aA), .val (.ref aC)] [(.ref aA), (.ref aC)])) t
    refine Jvm.RoadKit.acmp (g := (mkF m 8 #[.val (.ref aT), .val (.ref aA), .val (.ref aC)] [(.ref aA), (.ref aC)])) X8 hx rfl rfl rfl (pc0 := 8) (pc' := 11) (same := false) rfl (hb hby d2_8) rfl (decide_eq_false fun q => naCaA (Value.ref.inj q)) (by decide) (by decide) ?_
    exact k
  have S11 : ∀ t, Steps p.tables e below (T8.setTop (mkF m 12 #[.val (.ref aT), .val (.ref aA), .val (.ref aC)] [(.ref aC)])) t → Steps p.tables e below (T8.setTop (mkF m 11 #[.val (.ref aT), .val (.ref aA), .val (.ref aC)] [])) t := by
    intro t k
    show Steps p.tables e below (T8.setTop (mkF m 11 #[.val (.ref aT), .val (.ref aA), .val (.ref aC)] [])) t
    refine XS.aloadN X8.here hx rfl (hb hby d2_11) rfl rfl ?_
    exact k
  refine OFin.go S11 ?_
  obtain ⟨T12, X12, e12, st12⟩ := getF X8 hx hZ hown (host := "") (Or.inl (hw _ (List.mem_of_getElem? (i := 15) rfl))) Via.refl e8 FaC (g := (mkF m 12 #[.val (.ref aT), .val (.ref aA), .val (.ref aC)] [(.ref aC)])) rfl rfl (hb hby d2_12)
  refine OFin.go st12 ?_
  show OFin p e below _ (T12.setTop (mkF m 15 #[.val (.ref aT), .val (.ref aA), .val (.ref aC)] [.null]))
  have S13 : ∀ t, Steps p.tables e below (T12.setTop (mkF m 3 #[.val (.ref aT), .val (.ref aA), .val .null] [.null])) t → Steps p.tables e below (T12.setTop (mkF m 15 #[.val (.ref aT), .val (.ref aA), .val (.ref aC)] [.null])) t := by
    intro t k
    show Steps p.tables e below (T12.setTop (mkF m 15 #[.val (.ref aT), .val (.ref aA), .val (.ref aC)] [.null])) t
    refine XS.astoreN X12.here hx rfl (hb hby d2_15) rfl rfl (l' := #[.val (.ref aT), .val (.ref aA), .val .null]) rfl ?_
    show Steps p.tables e below (T12.setTop (mkF m 16 #[.val (.ref aT), .val (.ref aA), .val .null] [])) t
    refine XS.goto X12.here hx rfl (pc0 := 16) (pc' := 2) rfl (hb hby d2_16) (by decide) (by decide) ?_
    show Steps p.tables e below (T12.setTop (mkF m 2 #[.val (.ref aT), .val (.ref aA), .val .null] [])) t
    refine XS.aloadN X12.here hx rfl (hb hby d2_2) rfl rfl ?_
    exact k
  refine OFin.go S13 ?_
  refine OFin.go (fun t k => ?_ : ∀ t, Steps p.tables e below (T12.setTop (mkF m 19 #[.val (.ref aT), .val (.ref aA), .val .null] [])) t → Steps p.tables e below (T12.setTop (mkF m 3 #[.val (.ref aT), .val (.ref aA), .val .null] [.null])) t) ?_
  · show Steps p.tables e below (T12.setTop (mkF m 3 #[.val (.ref aT), .val (.ref aA), .val .null] [.null])) t
    refine XS.ifnullYes X12.here hx rfl (pc0 := 3) (pc' := 19) rfl (hb hby d2_3) rfl (by decide) (by decide) ?_
    exact k
  have S14 : ∀ t, Steps p.tables e below (T12.setTop (mkF m 20 #[.val (.ref aT), .val (.ref aA), .val .null] [.null])) t → Steps p.tables e below (T12.setTop (mkF m 19 #[.val (.ref aT), .val (.ref aA), .val .null] [])) t := by
    intro t k
    show Steps p.tables e below (T12.setTop (mkF m 19 #[.val (.ref aT), .val (.ref aA), .val .null] [])) t
    refine XS.aloadN X12.here hx rfl (hb hby d2_19) rfl rfl ?_
    exact k
  refine OFin.go S14 ?_
  refine OFin.go (fun t k => ?_ : ∀ t, Steps p.tables e below (T12.setTop (mkF m 27 #[.val (.ref aT), .val (.ref aA), .val .null] [])) t → Steps p.tables e below (T12.setTop (mkF m 20 #[.val (.ref aT), .val (.ref aA), .val .null] [.null])) t) ?_
  · show Steps p.tables e below (T12.setTop (mkF m 20 #[.val (.ref aT), .val (.ref aA), .val .null] [.null])) t
    refine XS.ifnullYes X12.here hx rfl (pc0 := 20) (pc' := 27) rfl (hb hby d2_20) rfl (by decide) (by decide) ?_
    exact k
  have S15 : ∀ t, Steps p.tables e below (T12.setTop (mkF m 28 #[.val (.ref aT), .val (.ref aA), .val .null] [(.int (0 : Int32))])) t → Steps p.tables e below (T12.setTop (mkF m 27 #[.val (.ref aT), .val (.ref aA), .val .null] [])) t := by
    intro t k
    show Steps p.tables e below (T12.setTop (mkF m 27 #[.val (.ref aT), .val (.ref aA), .val .null] [])) t
    refine XS.iconst X12.here hx rfl (hb hby d2_27) ?_
    exact k
  refine OFin.go S15 ?_
  exact finZ X12 hx Bd.notSynchronized (t := .boolean) Bd.returns (by simp) (hb hby d2_28) rfl (by decide) (by decide) (⟨rfl, N0, e12⟩)
theorem ef_rm2_2_4 (m : MethodId) (aT : Addr) : entryFrame m #[(.ref aT), .null] 3 = mkF m 0 #[.val (.ref aT), .val .null, .unset] [] := by first | (simp [entryFrame, mkF, argsToLocals, Value.category]; done) | rfl
def Q_rm2_2_4 (Z : State)  (aC aS aT aA : Addr) (h0 : Heap) (n0 : Nat) (v : Option Value) (h : Heap) (L : List Loc) : Prop := v = some (.int (0 : Int32)) ∧ Fr n0 L ∧ h = h0
set_option maxRecDepth 65536 in
set_option maxHeartbeats 40000000 in
theorem rm2_2_4 (l : Launch) (Z : State) (a0 : Array Value) (hw : ∀ d ∈ tables_1, d.before a0 Z = true) (ws : List Jvm.Cond)  (aC aS aT aA : Addr) (h0 : Heap) (n0 : Nat) (Z0 : n0 ≤ h0.size) (FaC : Fld Z h0 aC "com/example/stowage/stowage/ip/Profile" "base" "Lcom/example/stowage/stowage/ip/Profile;" .null) (FaS : Fld Z h0 aS "com/example/stowage/stowage/ip/Profile" "base" "Lcom/example/stowage/stowage/ip/Profile;" (.ref aC)) (FaT : Fld Z h0 aT "com/example/stowage/stowage/ip/Profile" "base" "Lcom/example/stowage/stowage/ip/Profile;" (.ref aS)) (FaA : Fld Z h0 aA "com/example/stowage/stowage/ip/Profile" "base" "Lcom/example/stowage/stowage/ip/Profile;" (.ref aC)) (naCaS : aC ≠ aS) (naCaT : aC ≠ aT) (naCaA : aC ≠ aA) (naSaT : aS ≠ aT) (naSaA : aS ≠ aA) (naTaA : aT ≠ aA) :
    MetFree l (⟨"com/example/stowage/stowage/ip/Profile", "follows", "(Lcom/example/stowage/stowage/ip/Profile;)Z"⟩ : MethodName) (head1 (Jvm.Cond.code (⟨"com/example/stowage/stowage/ip/Profile", "follows", "(Lcom/example/stowage/stowage/ip/Profile;)Z"⟩ : MethodName) prog_149_method_9_code 3 (some .boolean) :: ws) ({ frames := 0, cells := 0, slots := 0, locals := 0 } : Room)) (fun a U => a = #[(.ref aT), .null] ∧ Z.Warmed39 U.vm ∧ U.heap = h0) (fun _ _ _ _ _ => True) (fun _ U o U' => ∃ v L, o = .returned v ∧ (Q_rm2_2_4 Z aC aS aT aA h0 n0) v U'.heap L ∧ FrameEnd U o U' L ({ frames := 0, cells := 0, slots := 0, locals := 0 } : Room).cells ({ frames := 0, cells := 0, slots := 0, locals := 0 } : Room).slots) := by
  refine MetFree.of_bodySF (plainFor_of_name pn_1) hisR ?_
  intro p e s m args below meth c s₁ Bd hml0 hP hK
  obtain ⟨rfl, hZ, hh⟩ := hP
  have hx := Bd.exec
  have hby := Bd.bytes
  have hml : c.maxLocals = 3 := hml0
  have hown : s.vm.findClass "com/example/stowage/stowage/ip/Profile" = some m.cls := findClass_of_methodNamed Bd.named
  have hnm := (name_of_methodNamed Bd.named Bd.method).1
  have X0 : Stand p l e ({ frames := 0, cells := 0, slots := 0, locals := 0 } : Room) s m #[(.ref aT), .null] below meth c s₁ [] 0 0 := Stand.of_body Bd
  have e0 : s₁.heap = h0 := by rw [← hh, Bd.state]; rfl
  have N0 := Fr.nil n0
  show OFin p e below (ORet (Q_rm2_2_4 Z aC aS aT aA h0 n0) s ({ frames := 0, cells := 0, slots := 0, locals := 0 } : Room).cells ({ frames := 0, cells := 0, slots := 0, locals := 0 } : Room).slots) (s₁.setTop (entryFrame m #[(.ref aT), .null] 3))
  refine OFin.go (fun t k => castTop (ef_rm2_2_4 m aT) k) ?_
  show OFin p e below (ORet (Q_rm2_2_4 Z aC aS aT aA h0 n0) s ({ frames := 0, cells := 0, slots := 0, locals := 0 } : Room).cells ({ frames := 0, cells := 0, slots := 0, locals := 0 } : Room).slots) (s₁.setTop (mkF m 0 #[.val (.ref aT), .val .null, .unset] []))
  have S1 : ∀ t, Steps p.tables e below (s₁.setTop (mkF m 3 #[.val (.ref aT), .val .null, .val (.ref aT)] [(.ref aT)])) t → Steps p.tables e below (s₁.setTop (mkF m 0 #[.val (.ref aT), .val .null, .unset] [])) t := by
    intro t k
    show Steps p.tables e below (s₁.setTop (mkF m 0 #[.val (.ref aT), .val .null, .unset] [])) t
    refine XS.aloadN X0.here hx rfl (hb hby d2_0) rfl rfl ?_
    show Steps p.tables e below (s₁.setTop (mkF m 1 #[.val (.ref aT), .val .null, .unset] [(.ref aT)])) t
    refine XS.astoreN X0.here hx rfl (hb hby d2_1) rfl rfl (l' := #[.val (.ref aT), .val .null, .val (.ref aT)]) rfl ?_
    show Steps p.tables e below (s₁.setTop (mkF m 2 #[.val (.ref aT), .val .null, .val (.ref aT)] [])) t
    refine XS.aloadN X0.here hx rfl (hb hby d2_2) rfl rfl ?_
    exact k
  refine OFin.go S1 ?_
  refine OFin.go (fun t k => ?_ : ∀ t, Steps p.tables e below (s₁.setTop (mkF m 6 #[.val (.ref aT), .val .null, .val (.ref aT)] [])) t → Steps p.tables e below (s₁.setTop (mkF m 3 #[.val (.ref aT), .val .null, .val (.ref aT)] [(.ref aT)])) t) ?_
  · show Steps p.tables e below (s₁.setTop (mkF m 3 #[.val (.ref aT), .val .null, .val (.ref aT)] [(.ref aT)])) t
    refine XS.ifnullNo X0.here hx rfl (hb hby d2_3) rfl ?_
    exact k
  have S2 : ∀ t, Steps p.tables e below (s₁.setTop (mkF m 8 #[.val (.ref aT), .val .null, .val (.ref aT)] [.null, (.ref aT)])) t → Steps p.tables e below (s₁.setTop (mkF m 6 #[.val (.ref aT), .val .null, .val (.ref aT)] [])) t := by
    intro t k
    show Steps p.tables e below (s₁.setTop (mkF m 6 #[.val (.ref aT), .val .null, .val (.ref aT)] [])) t
    refine XS.aloadN X0.here hx rfl (hb hby d2_6) rfl rfl ?_
    show Steps p.tables e below (s₁.setTop (mkF m 7 #[.val (.ref aT), .val .null, .val (.ref aT)] [(.ref aT)])) t
    refine XS.aloadN X0.here hx rfl (hb hby d2_7) rfl rfl ?_
    exact k
  refine OFin.go S2 ?_
  refine OFin.go (fun t k => ?_ : ∀ t, Steps p.tables e below (s₁.setTop (mkF m 11 #[.val (.ref aT), .val .null, .val (.ref aT)] [])) t → Steps p.tables e below (s₁.setTop (mkF m 8 #[.val (.ref aT), .val .null, .val (.ref aT)] [.null, (.ref aT)])) t) ?_
  · show Steps p.tables e below (s₁.setTop (mkF m 8 #[.val (.ref aT), .val .null, .val (.ref aT)] [.null, (.ref aT)])) t
    refine Jvm.RoadKit.acmp (g := (mkF m 8 #[.val (.ref aT), .val .null, .val (.ref aT)] [.null, (.ref aT)])) X0 hx rfl rfl rfl (pc0 := 8) (pc' := 11) (same := false) rfl (hb hby d2_8) rfl (decide_eq_false nofun) (by decide) (by decide) ?_
    exact k
  have S3 : ∀ t, Steps p.tables e below (s₁.setTop (mkF m 12 #[.val (.ref aT), .val .null, .val (.ref aT)] [(.ref aT)])) t → Steps p.tables e below (s₁.setTop (mkF m 11 #[.val (.ref aT), .val .null, .val (.ref aT)] [])) t := by
    intro t k
    show Steps p.tables e below (s₁.setTop (mkF m 11 #[.val (.ref aT), .val .null, .val (.ref aT)] [])) t
    refine XS.aloadN X0.here hx rfl (hb hby d2_11) rfl rfl ?_
    exact k
  refine OFin.go S3 ?_
  obtain ⟨T4, X4, e4, st4⟩ := getF X0 hx hZ hown (host := "") (Or.inl (hw _ (List.mem_of_getElem? (i := 15) rfl))) Via.refl e0 FaT (g := (mkF m 12 #[.val (.ref aT), .val .null, .val (.ref aT)] [(.ref aT)])) rfl rfl (hb hby d2_12)
  refine OFin.go st4 ?_
  show OFin p e below _ (T4.setTop (mkF m 15 #[.val (.ref aT), .val .null, .val (.ref aT)] [(.ref aS)]))
  have S5 : ∀ t, Steps p.tables e below (T4.setTop (mkF m 3 #[.val (.ref aT), .val .null, .val (.ref aS)] [(.ref aS)])) t → Steps p.tables e below (T4.setTop (mkF m 15 #[.val (.ref aT), .val .null, .val (.ref aT)] [(.ref aS)])) t := by
    intro t k
    show Steps p.tables e below (T4.setTop (mkF m 15 #[.val (.ref aT), .val .null, .val (.ref aT)] [(.ref aS)])) t
    refine XS.astoreN X4.here hx rfl (hb hby d2_15) rfl rfl (l' := #[.val (.ref aT), .val .null, .val (.ref aS)]) rfl ?_
    show Steps p.tables e below (T4.setTop (mkF m 16 #[.val (.ref aT), .val .null, .val (.ref aS)] [])) t
    refine XS.goto X4.here hx rfl (pc0 := 16) (pc' := 2) rfl (hb hby d2_16) (by decide) (by decide) ?_
    show Steps p.tables e below (T4.setTop (mkF m 2 #[.val (.ref aT), .val .null, .val (.ref aS)] [])) t
    refine XS.aloadN X4.here hx rfl (hb hby d2_2) rfl rfl ?_
    exact k
  refine OFin.go S5 ?_
  refine OFin.go (fun t k => ?_ : ∀ t, Steps p.tables e below (T4.setTop (mkF m 6 #[.val (.ref aT), .val .null, .val (.ref aS)] [])) t → Steps p.tables e below (T4.setTop (mkF m 3 #[.val (.ref aT), .val .null, .val (.ref aS)] [(.ref aS)])) t) ?_
  · show Steps p.tables e below (T4.setTop (mkF m 3 #[.val (.ref aT), .val .null, .val (.ref aS)] [(.ref aS)])) t
    refine XS.ifnullNo X4.here hx rfl (hb hby d2_3) rfl ?_
    exact k
  have S6 : ∀ t, Steps p.tables e below (T4.setTop (mkF m 8 #[.val (.ref aT), .val .null, .val (.ref aS)] [.null, (.ref aS)])) t → Steps p.tables e below (T4.setTop (mkF m 6 #[.val (.ref aT), .val .null, .val (.ref aS)] [])) t := by
    intro t k
    show Steps p.tables e below (T4.setTop (mkF m 6 #[.val (.ref aT), .val .null, .val (.ref aS)] [])) t
    refine XS.aloadN X4.here hx rfl (hb hby d2_6) rfl rfl ?_
    show Steps p.tables e below (T4.setTop (mkF m 7 #[.val (.ref aT), .val .null, .val (.ref aS)] [(.ref aS)])) t
    refine XS.aloadN X4.here hx rfl (hb hby d2_7) rfl rfl ?_
    exact k
  refine OFin.go S6 ?_
  refine OFin.go (fun t k => ?_ : ∀ t, Steps p.tables e below (T4.setTop (mkF m 11 #[.val (.ref aT), .val .null, .val (.ref aS)] [])) t → Steps p.tables e below (T4.setTop (mkF m 8 #[.val (.ref aT), .val .null, .val (.ref aS)] [.null, (.ref aS)])) t) ?_
  · show Steps p.tables e below (T4.setTop (mkF m 8 #[.val (.ref aT), .val .null, .val (.ref aS)] [.null, (.ref aS)])) t
    refine Jvm.RoadKit.acmp (g := (mkF m 8 #[.val (.ref aT), .val .null, .val (.ref aS)] [.null, (.ref aS)])) X4 hx rfl rfl rfl (pc0 := 8) (pc' := 11) (same := false) rfl (hb hby d2_8) rfl (decide_eq_false nofun) (by decide) (by decide) ?_
    exact k
  have S7 : ∀ t, Steps p.tables e below (T4.setTop (mkF m 12 #[.val (.ref aT), .val .null, .val (.ref aS)] [(.ref aS)])) t → Steps p.tables e below (T4.setTop (mkF m 11 #[.val (.ref aT), .val .null, .val (.ref aS)] [])) t := by
    intro t k
    show Steps p.tables e below (T4.setTop (mkF m 11 #[.val (.ref aT), .val .null, .val (.ref aS)] [])) t
    refine XS.aloadN X4.here hx rfl (hb hby d2_11) rfl rfl ?_
    exact k
  refine OFin.go S7 ?_
  obtain ⟨T8, X8, e8, st8⟩ := getF X4 hx hZ hown (host := "") (Or.inl (hw _ (List.mem_of_getElem? (i := 15) rfl))) Via.refl e4 FaS (g := (mkF m 12 #[.val (.ref aT), .val .null, .val (.ref aS)] [(.ref aS)])) rfl rfl (hb hby d2_12)
  refine OFin.go st8 ?_
  show OFin p e below _ (T8.setTop (mkF m 15 #[.val (.ref aT), .val .null, .val (.ref aS)] [(.ref aC)]))
  have S9 : ∀ t, Steps p.tables e below (T8.setTop (mkF m 3 #[.val (.ref aT), .val .null, .val (.ref aC)] [(.ref aC)])) t → Steps p.tables e below (T8.setTop (mkF m 15 #[.val (.ref aT), .val .null, .val (.ref aS)] [(.ref aC)])) t := by
    intro t k
    show Steps p.tables e below (T8.setTop (mkF m 15 #[.val (.ref aT), .val .null, .val (.ref aS)] [(.ref aC)])) t
    refine XS.astoreN X8.here hx rfl (hb hby d2_15) rfl rfl (l' := #[.val (.ref aT), .val .null, .val (.ref aC)]) rfl ?_
    show Steps p.tables e below (T8.setTop (mkF m 16 #[.val (.ref aT), .val .null, .val (.ref aC)] [])) t
    refine XS.goto X8.here hx rfl (pc0 := 16) (pc' := 2) rfl (hb hby d2_16) (by decide) (by decide) ?_
    show Steps p.tables e below (T8.setTop (mkF m 2 #[.val (.ref aT), .val .null, .val (.ref aC)] [])) t
    refine XS.aloadN X8.here hx rfl (hb hby d2_2) rfl rfl ?_
    exact k
  refine OFin.go S9 ?_
  refine OFin.go (fun t k => ?_ : ∀ t, Steps p.tables e below (T8.setTop (mkF m 6 #[.val (.ref aT), .val .null, .val (.ref aC)] [])) t → Steps p.tables e below (T8.setTop (mkF m 3 #[.val (.ref aT), .val .null, .val (.ref aC)] [(.ref aC)])) t) ?_
  · show Steps p.tables e below (T8.setTop (mkF m 3 #[.val (.ref aT), .val .null, .val (.ref aC)] [(.ref aC)])) t
    refine XS.ifnullNo X8.here hx rfl (hb hby d2_3) rfl ?_
    exact k
  have S10 : ∀ t, Steps p.tables e below (T8.setTop (mkF m 8 #[.val (.ref aT), .val .null, .val (.ref aC)] [.null, (.ref aC)])) t → Steps p.tables e below (T8.setTop (mkF m 6 #[.val (.ref aT), .val .null, .val (.ref aC)] [])) t := by
    intro t k
    show Steps p.tables e below (T8.setTop (mkF m 6 #[.val (.ref aT), .val .null, .val (.ref aC)] [])) t
    refine XS.aloadN X8.here hx rfl (hb hby d2_6) rfl rfl ?_
    show Steps p.tables e below (T8.setTop (mkF m 7 #[.val (.ref aT), .val .null, .val (.ref aC)] [(.ref aC)])) t
    refine XS.aloadN X8.here hx rfl (hb hby d2_7) rfl rfl ?_
    exact k
  refine OFin.go S10 ?_
  refine OFin.go (fun t k => ?_ : ∀ t, Steps p.tables e below (T8.setTop (mkF m 11 #[.val (.ref aT), .val .null, .val (.ref aC)] [])) t → Steps p.tables e below (T8.setTop (mkF m 8 #[.val (.ref aT), .val .null, .val (.ref aC)] [.null, (.ref aC)])) t) ?_
  · show Steps p.tables e below (T8.setTop (mkF m 8 #[.val (.ref aT), .val .null, .val (.ref aC)] [.null, (.ref aC)])) t
    refine Jvm.RoadKit.acmp (g := (mkF m 8 #[.val (.ref aT), .val .null, .val (.ref aC)] [.null, (.ref aC)])) X8 hx rfl rfl rfl (pc0 := 8) (pc' := 11) (same := false) rfl (hb hby d2_8) rfl (decide_eq_false nofun) (by decide) (by decide) ?_
    exact k
  have S11 : ∀ t, Steps p.tables e below (T8.setTop (mkF m 12 #[.val (.ref aT), .val .null, .val (.ref aC)] [(.ref aC)])) t → Steps p.tables e below (T8.setTop (mkF m 11 #[.val (.ref aT), .val .null, .val (.ref aC)] [])) t := by
    intro t k
    show Steps p.tables e below (T8.setTop (mkF m 11 #[.val (.ref aT), .val .null, .val (.ref aC)] [])) t
    refine XS.aloadN X8.here hx rfl (hb hby d2_11) rfl rfl ?_
    exact k
  refine OFin.go S11 ?_
  obtain ⟨T12, X12, e12, st12⟩ := getF X8 hx hZ hown (host := "") (Or.inl (hw _ (List.mem_of_getElem? (i := 15) rfl))) Via.refl e8 FaC (g := (mkF m 12 #[.val (.ref aT), .val .null, .val (.ref aC)] [(.ref aC)])) rfl rfl (hb hby d2_12)
  refine OFin.go st12 ?_
  show OFin p e below _ (T12.setTop (mkF m 15 #[.val (.ref aT), .val .null, .val (.ref aC)] [.null]))
  have S13 : ∀ t, Steps p.tables e below (T12.setTop (mkF m 3 #[.val (.ref aT), .val .null, .val .null] [.null])) t → Steps p.tables e below (T12.setTop (mkF m 15 #[.val (.ref aT), .val .null, .val (.ref aC)] [.null])) t := by
    intro t k
    show Steps p.tables e below (T12.setTop (mkF m 15 #[.val (.ref aT), .val .null, .val (.ref aC)] [.null])) t
    refine XS.astoreN X12.here hx rfl (hb hby d2_15) rfl rfl (l' := #[.val (.ref aT), .val .null, .val .null]) rfl ?_
    show Steps p.tables e below (T12.setTop (mkF m 16 #[.val (.ref aT), .val .null, .val .null] [])) t
    refine XS.goto X12.here hx rfl (pc0 := 16) (pc' := 2) rfl (hb hby d2_16) (by decide) (by decide) ?_
    show Steps p.tables e below (T12.setTop (mkF m 2 #[.val (.ref aT), .val .null, .val .null] [])) t
    refine XS.aloadN X12.here hx rfl (hb hby d2_2) rfl rfl ?_
    exact k
  refine OFin.go S13 ?_
  refine OFin.go (fun t k => ?_ : ∀ t, Steps p.tables e below (T12.setTop (mkF m 19 #[.val (.ref aT), .val .null, .val .null] [])) t → Steps p.tables e below (T12.setTop (mkF m 3 #[.val (.ref aT), .val .null, .val .null] [.null])) t) ?_
  · show Steps p.tables e below (T12.setTop (mkF m 3 #[.val (.ref aT), .val .null, .val .null] [.null])) t
    refine XS.ifnullYes X12.here hx rfl (pc0 := 3) (pc' := 19) rfl (hb hby d2_3) rfl (by decide) (by decide) ?_
    exact k
  have S14 : ∀ t, Steps p.tables e below (T12.setTop (mkF m 20 #[.val (.ref aT), .val .null, .val .null] [.null])) t → Steps p.tables e below (T12.setTop (mkF m 19 #[.val (.ref aT), .val .null, .val .null] [])) t := by
    intro t k
    show Steps p.tables e below (T12.setTop (mkF m 19 #[.val (.ref aT), .val .null, .val .null] [])) t
    refine XS.aloadN X12.here hx rfl (hb hby d2_19) rfl rfl ?_
    exact k
  refine OFin.go S14 ?_
  refine OFin.go (fun t k => ?_ : ∀ t, Steps p.tables e below (T12.setTop (mkF m 27 #[.val (.ref aT), .val .null, .val .null] [])) t → Steps p.tables e below (T12.setTop (mkF m 20 #[.val (.ref aT), .val .null, .val .null] [.null])) t) ?_
  · show Steps p.tables e below (T12.setTop (mkF m 20 #[.val (.ref aT), .val .null, .val .null] [.null])) t
    refine XS.ifnullYes X12.here hx rfl (pc0 := 20) (pc' := 27) rfl (hb hby d2_20) rfl (by decide) (by decide) ?_
    exact k
  have S15 : ∀ t, Steps p.tables e below (T12.setTop (mkF m 28 #[.val (.ref aT), .val .null, .val .null] [(.int (0 : Int32))])) t → Steps p.tables e below (T12.setTop (mkF m 27 #[.val (.ref aT), .val .null, .val .null] [])) t := by
    intro t k
    show Steps p.tables e below (T12.setTop (mkF m 27 #[.val (.ref aT), .val .null, .val .null] [])) t
    refine XS.iconst X12.here hx rfl (hb hby d2_27) ?_
    exact k
  refine OFin.go S15 ?_
  exact finZ X12 hx Bd.notSynchronized (t := .boolean) Bd.returns (by simp) (hb hby d2_28) rfl (by decide) (by decide) (⟨rfl, N0, e12⟩)
theorem ef_rm2_3_0 (m : MethodId) (aA : Addr) (aC : Addr) : entryFrame m #[(.ref aA), (.ref aC)] 3 = mkF m 0 #[.val (.ref aA), .val (.ref aC), .unset] [] := by first | (simp [entryFrame, mkF, argsToLocals, Value.category]; done) | rfl
def Q_rm2_3_0 (Z : State)  (aC aS aT aA : Addr) (h0 : Heap) (n0 : Nat) (v : Option Value) (h : Heap) (L : List Loc) : Prop := v = some (.int (1 : Int32)) ∧ Fr n0 L ∧ h = h0
set_option maxRecDepth 65536 in
set_option maxHeartbeats 40000000 in
theorem rm2_3_0 (l : Launch) (Z : State) (a0 : Array Value) (hw : ∀ d ∈ tables_1, d.before a0 Z = true) (ws : List Jvm.Cond)  (aC aS aT aA : Addr) (h0 : Heap) (n0 : Nat) (Z0 : n0 ≤ h0.size) (FaC : Fld Z h0 aC "com/example/stowage/stowage/ip/Profile" "base" "Lcom/example/stowage/stowage/ip/Profile;" .null) (FaS : Fld Z h0 aS "com/example/stowage/stowage/ip/Profile" "base" "Lcom/example/stowage/stowage/ip/Profile;" (.ref aC)) (FaT : Fld Z h0 aT "com/example/stowage/stowage/ip/Profile" "base" "Lcom/example/stowage/stowage/ip/Profile;" (.ref aS)) (FaA : Fld Z h0 aA "com/example/stowage/stowage/ip/Profile" "base" "Lcom/example/stowage/stowage/ip/Profile;" (.ref aC)) (naCaS : aC ≠ aS) (naCaT : aC ≠ aT) (naCaA : aC ≠ aA) (naSaT : aS ≠ aT) (naSaA : aS ≠ aA) (naTaA : aT ≠ aA) :
    MetFree l (⟨"com/example/stowage/stowage/ip/Profile", "follows", "(Lcom/example/stowage/stowage/ip/Profile;)Z"⟩ : MethodName) (head1 (Jvm.Cond.code (⟨"com/example/stowage/stowage/ip/Profile", "follows", "(Lcom/example/stowage/stowage/ip/Profile;)Z"⟩ : MethodName) prog_149_method_9_code 3 (some .boolean) :: ws) ({ frames := 0, cells := 0, slots := 0, locals := 0 } : Room)) (fun a U => a = #[(.ref aA), (.ref aC)] ∧ Z.Warmed39 U.vm ∧ U.heap = h0) (fun _ _ _ _ _ => True) (fun _ U o U' => ∃ v L, o = .returned v ∧ (Q_rm2_3_0 Z aC aS aT aA h0 n0) v U'.heap L ∧ FrameEnd U o U' L ({ frames := 0, cells := 0, slots := 0, locals := 0 } : Room).cells ({ frames := 0, cells := 0, slots := 0, locals := 0 } : Room).slots) := by
  refine MetFree.of_bodySF (plainFor_of_name pn_1) hisR ?_
  intro p e s m args below meth c s₁ Bd hml0 hP hK
  obtain ⟨rfl, hZ, hh⟩ := hP
  have hx := Bd.exec
  have hby := Bd.bytes
  have hml : c.maxLocals = 3 := hml0
  have hown : s.vm.findClass "com/example/stowage/stowage/ip/Profile" = some m.cls := findClass_of_methodNamed Bd.named
  have hnm := (name_of_methodNamed Bd.named Bd.method).1
  have X0 : Stand p l e ({ frames := 0, cells := 0, slots := 0, locals := 0 } : Room) s m #[(.ref aA), (.ref aC)] below meth c s₁ [] 0 0 := Stand.of_body Bd
  have e0 : s₁.heap = h0 := by rw [← hh, Bd.state]; rfl
  have N0 := Fr.nil n0
  show OFin p e below (ORet (Q_rm2_3_0 Z aC aS aT aA h0 n0) s ({ frames := 0, cells := 0, slots := 0, locals := 0 } : Room).cells ({ frames := 0, cells := 0, slots := 0, locals := 0 } : Room).slots) (s₁.setTop (entryFrame m #[(.ref aA), (.ref aC)] 3))
  refine OFin.go (fun t k => castTop (ef_rm2_3_0 m aA aC) k) ?_
  show OFin p e below (ORet (Q_rm2_3_0 Z aC aS aT aA h0 n0) s ({ frames := 0, cells := 0, slots := 0, locals := 0 } : Room).cells ({ frames := 0, cells := 0, slots := 0, locals := 0 } : Room).slots) (s₁.setTop (mkF m 0 #[.val (.ref aA), .val (.ref aC), .unset] []))
  have S1 : ∀ t, Steps p.tables e below (s₁.setTop (mkF m 3 #[.val (.ref aA), .val (.ref aC), .val (.ref aA)] [(.ref aA)])) t → Steps p.tables e below (s₁.setTop (mkF m 0 #[.val (.ref aA), .val (.ref aC), .unset] [])) t := by
    intro t k
    show Steps p.tables e below (s₁.setTop (mkF m 0 #[.val (.ref aA), .val (.ref aC), .unset] [])) t
    refine XS.aloadN X0.here hx rfl (hb hby d2_0) rfl rfl ?_
    show Steps p.tables e below (s₁.setTop (mkF m 1 #[.val (.ref aA), .val (.ref aC), .unset] [(.ref aA)])) t
    refine XS.astoreN X0.here hx rfl (hb hby d2_1) rfl rfl (l' := #[.val (.ref aA), .val (.ref aC), .val (.ref aA)]) rfl ?_
    show Steps p.tables e below (s₁.setTop (mkF m 2 #[.val (.ref aA), .val (.ref aC), .val (.ref aA)] [])) t
    refine XS.aloadN X0.here hx rfl (hb hby d2_2) rfl rfl ?_
    exact k
  refine OFin.go S1 ?_
  refine OFin.go (fun t k => ?_ : ∀ t, Steps p.tables e below (s₁.setTop (mkF m 6 #[.val (.ref aA), .val (.ref aC), .val (.ref aA)] [])) t → Steps p.tables e below (s₁.setTop (mkF m 3 #[.val (.ref aA), .val (.ref aC), .val (.ref aA)] [(.ref aA)])) t) ?_
  · show Steps p.tables e below (s₁.setTop (mkF m 3 #[.val (.ref aA), .val (.ref aC), .val (.ref aA)] [(.ref aA)])) t
    refine XS.ifnullNo X0.here hx rfl (hb hby d2_3) rfl ?_
    exact k
  have S2 : ∀ t, Steps p.tables e below (s₁.setTop (mkF m 8 #[.val (.ref aA), .val (.ref aC), .val (.ref aA)] [(.ref aC), (.ref aA)])) t → Steps p.tables e below (s₁.setTop (mkF m 6 #[.val (.ref aA), .val (.ref aC), .val (.ref aA)] [])) t := by
    intro t k
    show Steps p.tables e below (s₁.setTop (mkF m 6 #[.val (.ref aA), .val (.ref aC), .val (.ref aA)] [])) t
    refine XS.aloadN X0.here hx rfl (hb hby d2_6) rfl rfl ?_
    show Steps p.tables e below (s₁.setTop (mkF m 7 #[.val (.ref aA), .val (.ref aC), .val (.ref aA)] [(.ref aA)])) t
    refine XS.aloadN X0.here hx rfl (hb hby d2_7) rfl rfl ?_
    exact k
  refine OFin.go S2 ?_
  refine OFin.go (fun t k => ?_ : ∀ t, Steps p.tables e below (s₁.setTop (mkF m 11 #[.val (.ref aA), .val (.ref aC), .val (.ref aA)] [])) t → Steps p.tables e below (s₁.setTop (mkF m 8 #[.val (.ref aA), .val (.ref aC), .val (.ref aA)] [(.ref aC), (.ref aA)])) t) ?_
  · show Steps p.tables e below (s₁.setTop (mkF m 8 #[.val (.ref aA), .val (.ref aC), .val (.ref aA)] [(.ref aC), (.ref aA)])) t
    refine Jvm.RoadKit.acmp (g := (mkF m 8 #[.val (.ref aA), .val (.ref aC), .val (.ref aA)] [(.ref aC), (.ref aA)])) X0 hx rfl rfl rfl (pc0 := 8) (pc' := 11) (same := false) rfl (hb hby d2_8) rfl (decide_eq_false fun q => (Ne.symm naCaA) (Value.ref.inj q)) (by decide) (by decide) ?_
    exact k
  have S3 : ∀ t, Steps p.tables e below (s₁.setTop (mkF m 12 #[.val (.ref aA), .val (.ref aC), .val (.ref aA)] [(.ref aA)])) t → Steps p.tables e below (s₁.setTop (mkF m 11 #[.val (.ref aA), .val (.ref aC), .val (.ref aA)] [])) t := by
    intro t k
    show Steps p.tables e below (s₁.setTop (mkF m 11 #[.val (.ref aA), .val (.ref aC), .val (.ref aA)] [])) t
    refine XS.aloadN X0.here hx rfl (hb hby d2_11) rfl rfl ?_
    exact k
  refine OFin.go S3 ?_
  obtain ⟨T4, X4, e4, st4⟩ := getF X0 hx hZ hown (host := "") (Or.inl (hw _ (List.mem_of_getElem? (i := 15) rfl))) Via.refl e0 FaA (g := (mkF m 12 #[.val (.ref aA), .val (.ref aC), .val (.ref aA)] [(.ref aA)])) rfl rfl (hb hby d2_12)
  refine OFin.go st4 ?_
  show OFin p e below _ (T4.setTop (mkF m 15 #[.val (.ref aA), .val (.ref aC), .val (.ref aA)] [(.ref aC)]))
  have S5 : ∀ t, Steps p.tables e below (T4.setTop (mkF m 3 #[.val (.ref aA), .val (.ref aC), .val (.ref aC)] [(.ref aC)])) t → Steps p.tables e below (T4.setTop (mkF m 15 #[.val (.ref aA), .val (.ref aC), .val (.ref aA)] [(.ref aC)])) t := by
    intro t k
    show Steps p.tables e below (T4.setTop (mkF m 15 #[.val (.ref aA), .val (.ref aC), .val (.ref aA)] [(.ref aC)])) t
    refine XS.astoreN X4.here hx rfl (hb hby d2_15) rfl rfl (l' := #[.val (.ref aA), .val (.ref aC), .val (.ref aC)]) rfl ?_
    show Steps p.tables e below (T4.setTop (mkF m 16 #[.val (.ref aA), .val (.ref aC), .val (.ref aC)] [])) t
    refine XS.goto X4.here hx rfl (pc0 := 16) (pc' := 2) rfl (hb hby d2_16) (by decide) (by decide) ?_
    show Steps p.tables e below (T4.setTop (mkF m 2 #[.val (.ref aA), .val (.ref aC), .val (.ref aC)] [])) t
    refine XS.aloadN X4.here hx rfl (hb hby d2_2) rfl rfl ?_
    exact k
  refine OFin.go S5 ?_
  refine OFin.go (fun t k => ?_ : ∀ t, Steps p.tables e below (T4.setTop (mkF m 6 #[.val (.ref aA), .val (.ref aC), .val (.ref aC)] [])) t → Steps p.tables e below (T4.setTop (mkF m 3 #[.val (.ref aA), .val (.ref aC), .val (.ref aC)] [(.ref aC)])) t) ?_
  · show Steps p.tables e below (T4.setTop (mkF m 3 #[.val (.ref aA), .val (.ref aC), .val (.ref aC)] [(.ref aC)])) t
    refine XS.ifnullNo X4.here hx rfl (hb hby d2_3) rfl ?_
    exact k
  have S6 : ∀ t, Steps p.tables e below (T4.setTop (mkF m 8 #[.val (.ref aA), .val (.ref aC), .val (.ref aC)] [(.ref aC), (.ref aC)])) t → Steps p.tables e below (T4.setTop (mkF m 6 #[.val (.ref aA), .val (.ref aC), .val (.ref aC)] [])) t := by
    intro t k
    show Steps p.tables e below (T4.setTop (mkF m 6 #[.val (.ref aA), .val (.ref aC), .val (.ref aC)] [])) t
    refine XS.aloadN X4.here hx rfl (hb hby d2_6) rfl rfl ?_
    show Steps p.tables e below (T4.setTop (mkF m 7 #[.val (.ref aA), .val (.ref aC), .val (.ref aC)] [(.ref aC)])) t
    refine XS.aloadN X4.here hx rfl (hb hby d2_7) rfl rfl ?_
    exact k
  refine OFin.go S6 ?_
  refine OFin.go (fun t k => ?_ : ∀ t, Steps p.tables e below (T4.setTop (mkF m 19 #[.val (.ref aA), .val (.ref aC), .val (.ref aC)] [])) t → Steps p.tables e below (T4.setTop (mkF m 8 #[.val (.ref aA), .val (.ref aC), .val (.ref aC)] [(.ref aC), (.ref aC)])) t) ?_
  · show Steps p.tables e below (T4.setTop (mkF m 8 #[.val (.ref aA), .val (.ref aC), .val (.ref aC)] [(.ref aC), (.ref aC)])) t
    refine Jvm.RoadKit.acmp (g := (mkF m 8 #[.val (.ref aA), .val (.ref aC), .val (.ref aC)] [(.ref aC), (.ref aC)])) X4 hx rfl rfl rfl (pc0 := 8) (pc' := 19) (same := true) rfl (hb hby d2_8) rfl (decide_eq_true rfl) (by decide) (by decide) ?_
    exact k
  have S7 : ∀ t, Steps p.tables e below (T4.setTop (mkF m 20 #[.val (.ref aA), .val (.ref aC), .val (.ref aC)] [(.ref aC)])) t → Steps p.tables e below (T4.setTop (mkF m 19 #[.val (.ref aA), .val (.ref aC), .val (.ref aC)] [])) t := by
    intro t k
    show Steps p.tables e below (T4.setTop (mkF m 19 #[.val (.ref aA), .val (.ref aC), .val (.ref aC)] [])) t
    refine XS.aloadN X4.here hx rfl (hb hby d2_19) rfl rfl ?_
    exact k
  refine OFin.go S7 ?_
  refine OFin.go (fun t k => ?_ : ∀ t, Steps p.tables e below (T4.setTop (mkF m 23 #[.val (.ref aA), .val (.ref aC), .val (.ref aC)] [])) t → Steps p.tables e below (T4.setTop (mkF m 20 #[.val (.ref aA), .val (.ref aC), .val (.ref aC)] [(.ref aC)])) t) ?_
  · show Steps p.tables e below (T4.setTop (mkF m 20 #[.val (.ref aA), .val (.ref aC), .val (.ref aC)] [(.ref aC)])) t
    refine XS.ifnullNo X4.here hx rfl (hb hby d2_20) rfl ?_
    exact k
  have S8 : ∀ t, Steps p.tables e below (T4.setTop (mkF m 28 #[.val (.ref aA), .val (.ref aC), .val (.ref aC)] [(.int (1 : Int32))])) t → Steps p.tables e below (T4.setTop (mkF m 23 #[.val (.ref aA), .val (.ref aC), .val (.ref aC)] [])) t := by
    intro t k
    show Steps p.tables e below (T4.setTop (mkF m 23 #[.val (.ref aA), .val (.ref aC), .val (.ref aC)] [])) t
    refine XS.iconst X4.here hx rfl (hb hby d2_23) ?_
    show Steps p.tables e below (T4.setTop (mkF m 24 #[.val (.ref aA), .val (.ref aC), .val (.ref aC)] [(.int (1 : Int32))])) t
    refine XS.goto X4.here hx rfl (pc0 := 24) (pc' := 28) rfl (hb hby d2_24) (by decide) (by decide) ?_
    exact k
  refine OFin.go S8 ?_
  exact finZ X4 hx Bd.notSynchronized (t := .boolean) Bd.returns (by simp) (hb hby d2_28) rfl (by decide) (by decide) (⟨rfl, N0, e4⟩)
theorem ef_rm2_3_1 (m : MethodId) (aA : Addr) (aS : Addr) : entryFrame m #[(.ref aA), (.ref aS)] 3 = mkF m 0 #[.val (.ref aA), .val (.ref aS), .unset] [] := by first | (simp [entryFrame, mkF, argsToLocals, Value.category]; done) | rfl
def Q_rm2_3_1 (Z : State)  (aC aS aT aA : Addr) (h0 : Heap) (n0 : Nat) (v : Option Value) (h : Heap) (L : List Loc) : Prop := v = some (.int (0 : Int32)) ∧ Fr n0 L ∧ h = h0
set_option maxRecDepth 65536 in
set_option maxHeartbeats 40000000 in
theorem rm2_3_1 (l : Launch) (Z : State) (a0 : Array Value) (hw : ∀ d ∈ tables_1, d.before a0 Z = true) (ws : List Jvm.Cond)  (aC aS aT aA : Addr) (h0 : Heap) (n0 : Nat) (Z0 : n0 ≤ h0.size) (FaC : Fld Z h0 aC "com/example/stowage/stowage/ip/Profile" "base" "Lcom/example/stowage/stowage/ip/Profile;" .null) (FaS : Fld Z h0 aS "com/example/stowage/stowage/ip/Profile" "base" "Lcom/example/stowage/stowage/ip/Profile;" (.ref aC)) (FaT : Fld Z h0 aT "com/example/stowage/stowage/ip/Profile" "base" "Lcom/example/stowage/stowage/ip/Profile;" (.ref aS)) (FaA : Fld Z h0 aA "com/example/stowage/stowage/ip/Profile" "base" "Lcom/example/stowage/stowage/ip/Profile;" (.ref aC)) (naCaS : aC ≠ aS) (naCaT : aC ≠ aT) (naCaA : aC ≠ aA) (naSaT : aS ≠ aT) (naSaA : aS ≠ aA) (naTaA : aT ≠ aA) :
    MetFree l (⟨"com/example/stowage/stowage/ip/Profile", "follows", "(Lcom/example/stowage/stowage/ip/Profile;)Z"⟩ : MethodName) (head1 (Jvm.Cond.code (⟨"com/example/stowage/stowage/ip/Profile", "follows", "(Lcom/example/stowage/stowage/ip/Profile;)Z"⟩ : MethodName) prog_149_method_9_code 3 (some .boolean) :: ws) ({ frames := 0, cells := 0, slots := 0, locals := 0 } : Room)) (fun a U => a = #[(.ref aA), (.ref aS)] ∧ Z.Warmed39 U.vm ∧ U.heap = h0) (fun _ _ _ _ _ => True) (fun _ U o U' => ∃ v L, o = .returned v ∧ (Q_rm2_3_1 Z aC aS aT aA h0 n0) v U'.heap L ∧ FrameEnd U o U' L ({ frames := 0, cells := 0, slots := 0, locals := 0 } : Room).cells ({ frames := 0, cells := 0, slots := 0, locals := 0 } : Room).slots) := by
  refine MetFree.of_bodySF (plainFor_of_name pn_1) hisR ?_
  intro p e s m args below meth c s₁ Bd hml0 hP hK
  obtain ⟨rfl, hZ, hh⟩ := hP
  have hx := Bd.exec
  have hby := Bd.bytes
  have hml : c.maxLocals = 3 := hml0
  have hown : s.vm.findClass "com/example/stowage/stowage/ip/Profile" = some m.cls := findClass_of_methodNamed Bd.named
  have hnm := (name_of_methodNamed Bd.named Bd.method).1
  have X0 : Stand p l e ({ frames := 0, cells := 0, slots := 0, locals := 0 } : Room) s m #[(.ref aA), (.ref aS)] below meth c s₁ [] 0 0 := Stand.of_body Bd
  have e0 : s₁.heap = h0 := by rw [← hh, Bd.state]; rfl
  have N0 := Fr.nil n0
  show OFin p e below (ORet (Q_rm2_3_1 Z aC aS aT aA h0 n0) s ({ frames := 0, cells := 0, slots := 0, locals := 0 } : Room).cells ({ frames := 0, cells := 0, slots := 0, locals := 0 } : Room).slots) (s₁.setTop (entryFrame m #[(.ref aA), (.ref aS)] 3))
  refine OFin.go (fun t k => castTop (ef_rm2_3_1 m aA aS) k) ?_
  show OFin p e below (ORet (Q_rm2_3_1 Z aC aS aT aA h0 n0) s ({ frames := 0, cells := 0, slots := 0, locals := 0 } : Room).cells ({ frames := 0, cells := 0, slots := 0, locals := 0 } : Room).slots) (s₁.setTop (mkF m 0 #[.val (.ref aA), .val (.ref aS), .unset] []))
  have S1 : ∀ t, Steps p.tables e below (s₁.setTop (mkF m 3 #[.val (.ref aA), .val (.ref aS), .val (.ref aA)] [(.ref aA)])) t → Steps p.tables e below (s₁.setTop (mkF m 0 #[.val (.ref aA), .val (.ref aS), .unset] [])) t := by
    intro t k
    show Steps p.tables e below (s₁.setTop (mkF m 0 #[.val (.ref aA), .val (.ref aS), .unset] [])) t
    refine XS.aloadN X0.here hx rfl (hb hby d2_0) rfl rfl ?_
    show Steps p.tables e below (s₁.setTop (mkF m 1 #[.val (.ref aA), .val (.ref aS), .unset] [(.ref aA)])) t
    refine XS.astoreN X0.here hx rfl (hb hby d2_1) rfl rfl (l' := #[.val (.ref aA), .val (.ref aS), .val (.ref aA)]) rfl ?_
    show Steps p.tables e below (s₁.setTop (mkF m 2 #[.val (.ref aA), .val (.ref aS), .val (.ref aA)] [])) t
    refine XS.aloadN X0.here hx rfl (hb hby d2_2) rfl rfl ?_
    exact k
  refine OFin.go S1 ?_
  refine OFin.go (fun t k => ?_ : ∀ t, Steps p.tables e below (s₁.setTop (mkF m 6 #[.val (.ref aA), .val (.ref aS), .val (.ref aA)] [])) t → Steps p.tables e below (s₁.setTop (mkF m 3 #[.val (.ref aA), .val (.ref aS), .val (.ref aA)] [(.ref aA)])) t) ?_
  · show Steps p.tables e below (s₁.setTop (mkF m 3 #[.val (.ref aA), .val (.ref aS), .val (.ref aA)] [(.ref aA)])) t
    refine XS.ifnullNo X0.here hx rfl (hb hby d2_3) rfl ?_
    exact k
  have S2 : ∀ t, Steps p.tables e below (s₁.setTop (mkF m 8 #[.val (.ref aA), .val (.ref aS), .val (.ref aA)] [(.ref aS), (.ref aA)])) t → Steps p.tables e below (s₁.setTop (mkF m 6 #[.val (.ref aA), .val (.ref aS), .val (.ref aA)] [])) t := by
    intro t k
    show Steps p.tables e below (s₁.setTop (mkF m 6 #[.val (.ref aA), .val (.ref aS), .val (.ref aA)] [])) t
    refine XS.aloadN X0.here hx rfl (hb hby d2_6) rfl rfl ?_
    show Steps p.tables e below (s₁.setTop (mkF m 7 #[.val (.ref aA), .val (.ref aS), .val (.ref aA)] [(.ref aA)])) t
    refine XS.aloadN X0.here hx rfl (hb hby d2_7) rfl rfl ?_
    exact k
  refine OFin.go S2 ?_
  refine OFin.go (fun t k => ?_ : ∀ t, Steps p.tables e below (s₁.setTop (mkF m 11 #[.val (.ref aA), .val (.ref aS), .val (.ref aA)] [])) t → Steps p.tables e below (s₁.setTop (mkF m 8 #[.val (.ref aA), .val (.ref aS), .val (.ref aA)] [(.ref aS), (.ref aA)])) t) ?_
  · show Steps p.tables e below (s₁.setTop (mkF m 8 #[.val (.ref aA), .val (.ref aS), .val (.ref aA)] [(.ref aS), (.ref aA)])) t
    refine Jvm.RoadKit.acmp (g := (mkF m 8 #[.val (.ref aA), .val (.ref aS), .val (.ref aA)] [(.ref aS), (.ref aA)])) X0 hx rfl rfl rfl (pc0 := 8) (pc' := 11) (same := false) rfl (hb hby d2_8) rfl (decide_eq_false fun q => (Ne.symm naSaA) (Value.ref.inj q)) (by decide) (by decide) ?_
    exact k
  have S3 : ∀ t, Steps p.tables e below (s₁.setTop (mkF m 12 #[.val (.ref aA), .val (.ref aS), .val (.ref aA)] [(.ref aA)])) t → Steps p.tables e below (s₁.setTop (mkF m 11 #[.val (.ref aA), .val (.ref aS), .val (.ref aA)] [])) t := by
    intro t k
    show Steps p.tables e below (s₁.setTop (mkF m 11 #[.val (.ref aA), .val (.ref aS), .val (.ref aA)] [])) t
    refine XS.aloadN X0.here hx rfl (hb hby d2_11) rfl rfl ?_
    exact k
  refine OFin.go S3 ?_
  obtain ⟨T4, X4, e4, st4⟩ := getF X0 hx hZ hown (host := "") (Or.inl (hw _ (List.mem_of_getElem? (i := 15) rfl))) Via.refl e0 FaA (g := (mkF m 12 #[.val (.ref aA), .val (.ref aS), .val (.ref aA)] [(.ref aA)])) rfl rfl (hb hby d2_12)
  refine OFin.go st4 ?_
  show OFin p e below _ (T4.setTop (mkF m 15 #[.val (.ref aA), .val (.ref aS), .val (.ref aA)] [(.ref aC)]))
  have S5 : ∀ t, Steps p.tables e below (T4.setTop (mkF m 3 #[.val (.ref aA), .val (.ref aS), .val (.ref aC)] [(.ref aC)])) t → Steps p.tables e below (T4.setTop (mkF m 15 #[.val (.ref aA), .val (.ref aS), .val (.ref aA)] [(.ref aC)])) t := by
    intro t k
    show Steps p.tables e below (T4.setTop (mkF m 15 #[.val (.ref aA), .val (.ref aS), .val (.ref aA)] [(.ref aC)])) t
    refine XS.astoreN X4.here hx rfl (hb hby d2_15) rfl rfl (l' := #[.val (.ref aA), .val (.ref aS), .val (.ref aC)]) rfl ?_
    show Steps p.tables e below (T4.setTop (mkF m 16 #[.val (.ref aA), .val (.ref aS), .val (.ref aC)] [])) t
    refine XS.goto X4.here hx rfl (pc0 := 16) (pc' := 2) rfl (hb hby d2_16) (by decide) (by decide) ?_
    show Steps p.tables e below (T4.setTop (mkF m 2 #[.val (.ref aA), .val (.ref aS), .val (.ref aC)] [])) t
    refine XS.aloadN X4.here hx rfl (hb hby d2_2) rfl rfl ?_
    exact k
  refine OFin.go S5 ?_
  refine OFin.go (fun t k => ?_ : ∀ t, Steps p.tables e below (T4.setTop (mkF m 6 #[.val (.ref aA), .val (.ref aS), .val (.ref aC)] [])) t → Steps p.tables e below (T4.setTop (mkF m 3 #[.val (.ref aA), .val (.ref aS), .val (.ref aC)] [(.ref aC)])) t) ?_
  · show Steps p.tables e below (T4.setTop (mkF m 3 #[.val (.ref aA), .val (.ref aS), .val (.ref aC)] [(.ref aC)])) t
    refine XS.ifnullNo X4.here hx rfl (hb hby d2_3) rfl ?_
    exact k
  have S6 : ∀ t, Steps p.tables e below (T4.setTop (mkF m 8 #[.val (.ref aA), .val (.ref aS), .val (.ref aC)] [(.ref aS), (.ref aC)])) t → Steps p.tables e below (T4.setTop (mkF m 6 #[.val (.ref aA), .val (.ref aS), .val (.ref aC)] [])) t := by
    intro t k
    show Steps p.tables e below (T4.setTop (mkF m 6 #[.val (.ref aA), .val (.ref aS), .val (.ref aC)] [])) t
    refine XS.aloadN X4.here hx rfl (hb hby d2_6) rfl rfl ?_
    show Steps p.tables e below (T4.setTop (mkF m 7 #[.val (.ref aA), .val (.ref aS), .val (.ref aC)] [(.ref aC)])) t
    refine XS.aloadN X4.here hx rfl (hb hby d2_7) rfl rfl ?_
    exact k
  refine OFin.go S6 ?_
  refine OFin.go (fun t k => ?_ : ∀ t, Steps p.tables e below (T4.setTop (mkF m 11 #[.val (.ref aA), .val (.ref aS), .val (.ref aC)] [])) t → Steps p.tables e below (T4.setTop (mkF m 8 #[.val (.ref aA), .val (.ref aS), .val (.ref aC)] [(.ref aS), (.ref aC)])) t) ?_
  · show Steps p.tables e below (T4.setTop (mkF m 8 #[.val (.ref aA), .val (.ref aS), .val (.ref aC)] [(.ref aS), (.ref aC)])) t
    refine Jvm.RoadKit.acmp (g := (mkF m 8 #[.val (.ref aA), .val (.ref aS), .val (.ref aC)] [(.ref aS), (.ref aC)])) X4 hx rfl rfl rfl (pc0 := 8) (pc' := 11) (same := false) rfl (hb hby d2_8) rfl (decide_eq_false fun q => naCaS (Value.ref.inj q)) (by decide) (by decide) ?_
    exact k
  have S7 : ∀ t, Steps p.tables e below (T4.setTop (mkF m 12 #[.val (.ref aA), .val (.ref aS), .val (.ref aC)] [(.ref aC)])) t → Steps p.tables e below (T4.setTop (mkF m 11 #[.val (.ref aA), .val (.ref aS), .val (.ref aC)] [])) t := by
    intro t k
    show Steps p.tables e below (T4.setTop (mkF m 11 #[.val (.ref aA), .val (.ref aS), .val (.ref aC)] [])) t
    refine XS.aloadN X4.here hx rfl (hb hby d2_11) rfl rfl ?_
    exact k
  refine OFin.go S7 ?_
  obtain ⟨T8, X8, e8, st8⟩ := getF X4 hx hZ hown (host := "") (Or.inl (hw _ (List.mem_of_getElem? (i := 15) rfl))) Via.refl e4 FaC (g := (mkF m 12 #[.val (.ref aA), .val (.ref aS), .val (.ref aC)] [(.ref aC)])) rfl rfl (hb hby d2_12)
  refine OFin.go st8 ?_
  show OFin p e below _ (T8.setTop (mkF m 15 #[.val (.ref aA), .val (.ref aS), .val (.ref aC)] [.null]))
  have S9 : ∀ t, Steps p.tables e below (T8.setTop (mkF m 3 #[.val (.ref aA), .val (.ref aS), .val .null] [.null])) t → Steps p.tables e below (T8.setTop (mkF m 15 #[.val (.ref aA), .val (.ref aS), .val (.ref aC)] [.null])) t := by
    intro t k
    show Steps p.tables e below (T8.setTop (mkF m 15 #[.val (.ref aA), .val (.ref aS), .val (.ref aC)] [.null])) t
    refine XS.astoreN X8.here hx rfl (hb hby d2_15) rfl rfl (l' := #[.val (.ref aA), .val (.ref aS), .val .null]) rfl ?_
    show Steps p.tables e below (T8.setTop (mkF m 16 #[.val (.ref aA), .val (.ref aS), .val .null] [])) t
    refine XS.goto X8.here hx rfl (pc0 := 16) (pc' := 2) rfl (hb hby d2_16) (by decide) (by decide) ?_
    show Steps p.tables e below (T8.setTop (mkF m 2 #[.val (.ref aA), .val (.ref aS), .val .null] [])) t
    refine XS.aloadN X8.here hx rfl (hb hby d2_2) rfl rfl ?_
    exact k
  refine OFin.go S9 ?_
  refine OFin.go (fun t k => ?_ : ∀ t, Steps p.tables e below (T8.setTop (mkF m 19 #[.val (.ref aA), .val (.ref aS), .val .null] [])) t → Steps p.tables e below (T8.setTop (mkF m 3 #[.val (.ref aA), .val (.ref aS), .val .null] [.null])) t) ?_
  · show Steps p.tables e below (T8.setTop (mkF m 3 #[.val (.ref aA), .val (.ref aS), .val .null] [.null])) t
    refine XS.ifnullYes X8.here hx rfl (pc0 := 3) (pc' := 19) rfl (hb hby d2_3) rfl (by decide) (by decide) ?_
    exact k
  have S10 : ∀ t, Steps p.tables e below (T8.setTop (mkF m 20 #[.val (.ref aA), .val (.ref aS), .val .null] [.null])) t → Steps p.tables e below (T8.setTop (mkF m 19 #[.val (.ref aA), .val (.ref aS), .val .null] [])) t := by
    intro t k
    show Steps p.tables e below (T8.setTop (mkF m 19 #[.val (.ref aA), .val (.ref aS), .val .null] [])) t
    refine XS.aloadN X8.here hx rfl (hb hby d2_19) rfl rfl ?_
    exact k
  refine OFin.go S10 ?_
  refine OFin.go (fun t k => ?_ : ∀ t, Steps p.tables e below (T8.setTop (mkF m 27 #[.val (.ref aA), .val (.ref aS), .val .null] [])) t → Steps p.tables e below (T8.setTop (mkF m 20 #[.val (.ref aA), .val (.ref aS), .val .null] [.null])) t) ?_
  · show Steps p.tables e below (T8.setTop (mkF m 20 #[.val (.ref aA), .val (.ref aS), .val .null] [.null])) t
    refine XS.ifnullYes X8.here hx rfl (pc0 := 20) (pc' := 27) rfl (hb hby d2_20) rfl (by decide) (by decide) ?_
    exact k
  have S11 : ∀ t, Steps p.tables e below (T8.setTop (mkF m 28 #[.val (.ref aA), .val (.ref aS), .val .null] [(.int (0 : Int32))])) t → Steps p.tables e below (T8.setTop (mkF m 27 #[.val (.ref aA), .val (.ref aS), .val .null] [])) t := by
    intro t k
    show Steps p.tables e below (T8.setTop (mkF m 27 #[.val (.ref aA), .val (.ref aS), .val .null] [])) t
    refine XS.iconst X8.here hx rfl (hb hby d2_27) ?_
    exact k
  refine OFin.go S11 ?_
  exact finZ X8 hx Bd.notSynchronized (t := .boolean) Bd.returns (by simp) (hb hby d2_28) rfl (by decide) (by decide) (⟨rfl, N0, e8⟩)
theorem ef_rm2_3_2 (m : MethodId) (aA : Addr) (aT : Addr) : entryFrame m #[(.ref aA), (.ref aT)] 3 = mkF m 0 #[.val (.ref aA), .val (.ref aT), .unset] [] := by first | (simp [entryFrame, mkF, argsToLocals, Value.category]; done) | rfl
def Q_rm2_3_2 (Z : State)  (aC aS aT aA : Addr) (h0 : Heap) (n0 : Nat) (v : Option Value) (h : Heap) (L : List Loc) : Prop := v = some (.int (0 : Int32)) ∧ Fr n0 L ∧ h = h0
set_option maxRecDepth 65536 in
set_option maxHeartbeats 40000000 in
theorem rm2_3_2 (l : Launch) (Z : State) (a0 : Array Value) (hw : ∀ d ∈ tables_1, d.before a0 Z = true) (ws : List Jvm.Cond)  (aC aS aT aA : Addr) (h0 : Heap) (n0 : Nat) (Z0 : n0 ≤ h0.size) (FaC : Fld Z h0 aC "com/example/stowage/stowage/ip/Profile" "base" "Lcom/example/stowage/stowage/ip/Profile;" .null) (FaS : Fld Z h0 aS "com/example/stowage/stowage/ip/Profile" "base" "Lcom/example/stowage/stowage/ip/Profile;" (.ref aC)) (FaT : Fld Z h0 aT "com/example/stowage/stowage/ip/Profile" "base" "Lcom/example/stowage/stowage/ip/Profile;" (.ref aS)) (FaA : Fld Z h0 aA "com/example/stowage/stowage/ip/Profile" "base" "Lcom/example/stowage/stowage/ip/Profile;" (.ref aC)) (naCaS : aC ≠ aS) (naCaT : aC ≠ aT) (naCaA : aC ≠ aA) (naSaT : aS ≠ aT) (naSaA : aS ≠ aA) (naTaA : aT ≠ aA) :
    MetFree l (⟨"com/example/stowage/stowage/ip/Profile", "follows", "(Lcom/example/stowage/stowage/ip/Profile;)Z"⟩ : MethodName) (head1 (Jvm.Cond.code (⟨"com/example/stowage/stowage/ip/Profile", "follows", "(Lcom/example/stowage/stowage/ip/Profile;)Z"⟩ : MethodName) prog_149_method_9_code 3 (some .boolean) :: ws) ({ frames := 0, cells := 0, slots := 0, locals := 0 } : Room)) (fun a U => a = #[(.ref aA), (.ref aT)] ∧ Z.Warmed39 U.vm ∧ U.heap = h0) (fun _ _ _ _ _ => True) (fun _ U o U' => ∃ v L, o = .returned v ∧ (Q_rm2_3_2 Z aC aS aT aA h0 n0) v U'.heap L ∧ FrameEnd U o U' L ({ frames := 0, cells := 0, slots := 0, locals := 0 } : Room).cells ({ frames := 0, cells := 0, slots := 0, locals := 0 } : Room).slots) := by
  refine MetFree.of_bodySF (plainFor_of_name pn_1) hisR ?_
  intro p e s m args below meth c s₁ Bd hml0 hP hK
  obtain ⟨rfl, hZ, hh⟩ := hP
  have hx := Bd.exec
  have hby := Bd.bytes
  have hml : c.maxLocals = 3 := hml0
  have hown : s.vm.findClass "com/example/stowage/stowage/ip/Profile" = some m.cls := findClass_of_methodNamed Bd.named
  have hnm := (name_of_methodNamed Bd.named Bd.method).1
  have X0 : Stand p l e ({ frames := 0, cells := 0, slots := 0, locals := 0 } : Room) s m #[(.ref aA), (.ref aT)] below meth c s₁ [] 0 0 := Stand.of_body Bd
  have e0 : s₁.heap = h0 := by rw [← hh, Bd.state]; rfl
  have N0 := Fr.nil n0
  show OFin p e below (ORet (Q_rm2_3_2 Z aC aS aT aA h0 n0) s ({ frames := 0, cells := 0, slots := 0, locals := 0 } : Room).cells ({ frames := 0, cells := 0, slots := 0, locals := 0 } : Room).slots) (s₁.setTop (entryFrame m #[(.ref aA), (.ref aT)] 3))
  refine OFin.go (fun t k => castTop (ef_rm2_3_2 m aA aT) k) ?_
  show OFin p e below (ORet (Q_rm2_3_2 Z aC aS aT aA h0 n0) s ({ frames := 0, cells := 0, slots := 0, locals := 0 } : Room).cells ({ frames := 0, cells := 0, slots := 0, locals := 0 } : Room).slots) (s₁.setTop (mkF m 0 #[.val (.ref aA), .val (.ref aT), .unset] []))
  have S1 : ∀ t, Steps p.tables e below (s₁.setTop (mkF m 3 #[.val (.ref aA), .val (.ref aT), .val (.ref aA)] [(.ref aA)])) t → Steps p.tables e below (s₁.setTop (mkF m 0 #[.val (.ref aA), .val (.ref aT), .unset] [])) t := by
    intro t k
    show Steps p.tables e below (s₁.setTop (mkF m 0 #[.val (.ref aA), .val (.ref aT), .unset] [])) t
    refine XS.aloadN X0.here hx rfl (hb hby d2_0) rfl rfl ?_
    show Steps p.tables e below (s₁.setTop (mkF m 1 #[.val (.ref aA), .val (.ref aT), .unset] [(.ref aA)])) t
    refine XS.astoreN X0.here hx rfl (hb hby d2_1) rfl rfl (l' := #[.val (.ref aA), .val (.ref aT), .val (.ref aA)]) rfl ?_
    show Steps p.tables e below (s₁.setTop (mkF m 2 #[.val (.ref aA), .val (.ref aT), .val (.ref aA)] [])) t
    refine XS.aloadN X0.here hx rfl (hb hby d2_2) rfl rfl ?_
    exact k
  refine OFin.go S1 ?_
  refine OFin.go (fun t k => ?_ : ∀ t, Steps p.tables e below (s₁.setTop (mkF m 6 #[.val (.ref aA), .val (.ref aT), .val (.ref aA)] [])) t → Steps p.tables e below (s₁.setTop (mkF m 3 #[.val (.ref aA), .val (.ref aT), .val (.ref aA)] [(.ref aA)])) t) ?_
  · show Steps p.tables e below (s₁.setTop (mkF m 3 #[.val (.ref aA), .val (.ref aT), .val (.ref aA)] [(.ref aA)])) t
    refine XS.ifnullNo X0.here hx rfl (hb hby d2_3) rfl ?_
    exact k
  have S2 : ∀ t, Steps p.tables e below (s₁.setTop (mkF m 8 #[.val (.ref aA), .val (.ref aT), .val (.ref aA)] [(.ref aT), (.ref aA)])) t → Steps p.tables e below (s₁.setTop (mkF m 6 #[.val (.ref aA), .val (.ref aT), .val (.ref aA)] [])) t := by
    intro t k
    show Steps p.tables e below (s₁.setTop (mkF m 6 #[.val (.ref aA), .val (.ref aT), .val (.ref aA)] [])) t
    refine XS.aloadN X0.here hx rfl (hb hby d2_6) rfl rfl ?_
    show Steps p.tables e below (s₁.setTop (mkF m 7 #[.val (.ref aA), .val (.ref aT), .val (.ref aA)] [(.ref aA)])) t
    refine XS.aloadN X0.here hx rfl (hb hby d2_7) rfl rfl ?_
    exact k
  refine OFin.go S2 ?_
  refine OFin.go (fun t k => ?_ : ∀ t, Steps p.tables e below (s₁.setTop (mkF m 11 #[.val (.ref aA), .val (.ref aT), .val (.ref aA)] [])) t → Steps p.tables e below (s₁.setTop (mkF m 8 #[.val (.ref aA), .val (.ref aT), .val (.ref aA)] [(.ref aT), (.ref aA)])) t) ?_
  · show Steps p.tables e below (s₁.setTop (mkF m 8 #[.val (.ref aA), .val (.ref aT), .val (.ref aA)] [(.ref aT), (.ref aA)])) t
    refine Jvm.RoadKit.acmp (g := (mkF m 8 #[.val (.ref aA), .val (.ref aT), .val (.ref aA)] [(.ref aT), (.ref aA)])) X0 hx rfl rfl rfl (pc0 := 8) (pc' := 11) (same := false) rfl (hb hby d2_8) rfl (decide_eq_false fun q => (Ne.symm naTaA) (Value.ref.inj q)) (by decide) (by decide) ?_
    exact k
  have S3 : ∀ t, Steps p.tables e below (s₁.setTop (mkF m 12 #[.val (.ref aA), .val (.ref aT), .val (.ref aA)] [(.ref aA)])) t → Steps p.tables e below (s₁.setTop (mkF m 11 #[.val (.ref aA), .val (.ref aT), .val (.ref aA)] [])) t := by
    intro t k
    show Steps p.tables e below (s₁.setTop (mkF m 11 #[.val (.ref aA), .val (.ref aT), .val (.ref aA)] [])) t
    refine XS.aloadN X0.here hx rfl (hb hby d2_11) rfl rfl ?_
    exact k
  refine OFin.go S3 ?_
  obtain ⟨T4, X4, e4, st4⟩ := getF X0 hx hZ hown (host := "") (Or.inl (hw _ (List.mem_of_getElem? (i := 15) rfl))) Via.refl e0 FaA (g := (mkF m 12 #[.val (.ref aA), .val (.ref aT), .val (.ref aA)] [(.ref aA)])) rfl rfl (hb hby d2_12)
  refine OFin.go st4 ?_
  show OFin p e below _ (T4.setTop (mkF m 15 #[.val (.ref aA), .val (.ref aT), .val (.ref aA)] [(.ref aC)]))
  have S5 : ∀ t, Steps p.tables e below (T4.setTop (mkF m 3 #[.val (.ref aA), .val (.ref aT), .val (.ref aC)] [(.ref aC)])) t → Steps p.tables e below (T4.setTop (mkF m 15 #[.val (.ref aA), .val (.ref aT), .val (.ref aA)] [(.ref aC)])) t := by
    intro t k
    show Steps p.tables e below (T4.setTop (mkF m 15 #[.val (.ref aA), .val (.ref aT), .val (.ref aA)] [(.ref aC)])) t
    refine XS.astoreN X4.here hx rfl (hb hby d2_15) rfl rfl (l' := #[.val (.ref aA), .val (.ref aT), .val (.ref aC)]) rfl ?_
    show Steps p.tables e below (T4.setTop (mkF m 16 #[.val (.ref aA), .val (.ref aT), .val (.ref aC)] [])) t
    refine XS.goto X4.here hx rfl (pc0 := 16) (pc' := 2) rfl (hb hby d2_16) (by decide) (by decide) ?_
    show Steps p.tables e below (T4.setTop (mkF m 2 #[.val (.ref aA), .val (.ref aT), .val (.ref aC)] [])) t
    refine XS.aloadN X4.here hx rfl (hb hby d2_2) rfl rfl ?_
    exact k
  refine OFin.go S5 ?_
  refine OFin.go (fun t k => ?_ : ∀ t, Steps p.tables e below (T4.setTop (mkF m 6 #[.val (.ref aA), .val (.ref aT), .val (.ref aC)] [])) t → Steps p.tables e below (T4.setTop (mkF m 3 #[.val (.ref aA), .val (.ref aT), .val (.ref aC)] [(.ref aC)])) t) ?_
  · show Steps p.tables e below (T4.setTop (mkF m 3 #[.val (.ref aA), .val (.ref aT), .val (.ref aC)] [(.ref aC)])) t
    refine XS.ifnullNo X4.here hx rfl (hb hby d2_3) rfl ?_
    exact k
  have S6 : ∀ t, Steps p.tables e below (T4.setTop (mkF m 8 #[.val (.ref aA), .val (.ref aT), .val (.ref aC)] [(.ref aT), (.ref aC)])) t → Steps p.tables e below (T4.setTop (mkF m 6 #[.val (.ref aA), .val (.ref aT), .val (.ref aC)] [])) t := by
    intro t k
    show Steps p.tables e below (T4.setTop (mkF m 6 #[.val (.ref aA), .val (.ref aT), .val (.ref aC)] [])) t
    refine XS.aloadN X4.here hx rfl (hb hby d2_6) rfl rfl ?_
    show Steps p.tables e below (T4.setTop (mkF m 7 #[.val (.ref aA), .val (.ref aT), .val (.ref aC)] [(.ref aC)])) t
    refine XS.aloadN X4.here hx rfl (hb hby d2_7) rfl rfl ?_
    exact k
  refine OFin.go S6 ?_
  refine OFin.go (fun t k => ?_ : ∀ t, Steps p.tables e below (T4.setTop (mkF m 11 #[.val (.ref aA), .val (.ref aT), .val (.ref aC)] [])) t → Steps p.tables e below (T4.setTop (mkF m 8 #[.val (.ref aA), .val (.ref aT), .val (.ref aC)] [(.ref aT), (.ref aC)])) t) ?_
  · show Steps p.tables e below (T4.setTop (mkF m 8 #[.val (.ref aA), .val (.ref aT), .val (.ref aC)] [(.ref aT), (.ref aC)])) t
    refine Jvm.RoadKit.acmp (g := (mkF m 8 #[.val (.ref aA), .val (.ref aT), .val (.ref aC)] [(.ref aT), (.ref aC)])) X4 hx rfl rfl rfl (pc0 := 8) (pc' := 11) (same := false) rfl (hb hby d2_8) rfl (decide_eq_false fun q => naCaT (Value.ref.inj q)) (by decide) (by decide) ?_
    exact k
  have S7 : ∀ t, Steps p.tables e below (T4.setTop (mkF m 12 #[.val (.ref aA), .val (.ref aT), .val (.ref aC)] [(.ref aC)])) t → Steps p.tables e below (T4.setTop (mkF m 11 #[.val (.ref aA), .val (.ref aT), .val (.ref aC)] [])) t := by
    intro t k
    show Steps p.tables e below (T4.setTop (mkF m 11 #[.val (.ref aA), .val (.ref aT), .val (.ref aC)] [])) t
    refine XS.aloadN X4.here hx rfl (hb hby d2_11) rfl rfl ?_
    exact k
  refine OFin.go S7 ?_
  obtain ⟨T8, X8, e8, st8⟩ := getF X4 hx hZ hown (host := "") (Or.inl (hw _ (List.mem_of_getElem? (i := 15) rfl))) Via.refl e4 FaC (g := (mkF m 12 #[.val (.ref aA), .val (.ref aT), .val (.ref aC)] [(.ref aC)])) rfl rfl (hb hby d2_12)
  refine OFin.go st8 ?_
  show OFin p e below _ (T8.setTop (mkF m 15 #[.val (.ref aA), .val (.ref aT), .val (.ref aC)] [.null]))
  have S9 : ∀ t, Steps p.tables e below (T8.setTop (mkF m 3 #[.val (.ref aA), .val (.ref aT), .val .null] [.null])) t → Steps p.tables e below (T8.setTop (mkF m 15 #[.val (.ref aA), .val (.ref aT), .val (.ref aC)] [.null])) t := by
    intro t k
    show Steps p.tables e below (T8.setTop (mkF m 15 #[.val (.ref aA), .val (.ref aT), .val (.ref aC)] [.null])) t
    refine XS.astoreN X8.here hx rfl (hb hby d2_15) rfl rfl (l' := #[.val (.ref aA), .val (.ref aT), .val .null]) rfl ?_
    show Steps p.tables e below (T8.setTop (mkF m 16 #[.val (.ref aA), .val (.ref aT), .val .null] [])) t
    refine XS.goto X8.here hx rfl (pc0 := 16) (pc' := 2) rfl (hb hby d2_16) (by decide) (by decide) ?_
    show Steps p.tables e below (T8.setTop (mkF m 2 #[.val (.ref aA), .val (.ref aT), .val .null] [])) t
    refine XS.aloadN X8.here hx rfl (hb hby d2_2) rfl rfl ?_
    exact k
  refine OFin.go S9 ?_
  refine OFin.go (fun t k => ?_ : ∀ t, Steps p.tables e below (T8.setTop (mkF m 19 #[.val (.ref aA), .val (.ref aT), .val .null] [])) t → Steps p.tables e below (T8.setTop (mkF m 3 #[.val (.ref aA), .val (.ref aT), .val .null] [.null])) t) ?_
  · show Steps p.tables e below (T8.setTop (mkF m 3 #[.val (.ref aA), .val (.ref aT), .val .null] [.null])) t
    refine XS.ifnullYes X8.here hx rfl (pc0 := 3) (pc' := 19) rfl (hb hby d2_3) rfl (by decide) (by decide) ?_
    exact k
  have S10 : ∀ t, Steps p.tables e below (T8.setTop (mkF m 20 #[.val (.ref aA), .val (.ref aT), .val .null] [.null])) t → Steps p.tables e below (T8.setTop (mkF m 19 #[.val (.ref aA), .val (.ref aT), .val .null] [])) t := by
    intro t k
    show Steps p.tables e below (T8.setTop (mkF m 19 #[.val (.ref aA), .val (.ref aT), .val .null] [])) t
    refine XS.aloadN X8.here hx rfl (hb hby d2_19) rfl rfl ?_
    exact k
  refine OFin.go S10 ?_
  refine OFin.go (fun t k => ?_ : ∀ t, Steps p.tables e below (T8.setTop (mkF m 27 #[.val (.ref aA), .val (.ref aT), .val .null] [])) t → Steps p.tables e below (T8.setTop (mkF m 20 #[.val (.ref aA), .val (.ref aT), .val .null] [.null])) t) ?_
  · show Steps p.tables e below (T8.setTop (mkF m 20 #[.val (.ref aA), .val (.ref aT), .val .null] [.null])) t
    refine XS.ifnullYes X8.here hx rfl (pc0 := 20) (pc' := 27) rfl (hb hby d2_20) rfl (by decide) (by decide) ?_
    exact k
  have S11 : ∀ t, Steps p.tables e below (T8.setTop (mkF m 28 #[.val (.ref aA), .val (.ref aT), .val .null] [(.int (0 : Int32))])) t → Steps p.tables e below (T8.setTop (mkF m 27 #[.val (.ref aA), .val (.ref aT), .val .null] [])) t := by
    intro t k
    show Steps p.tables e below (T8.setTop (mkF m 27 #[.val (.ref aA), .val (.ref aT), .val .null] [])) t
    refine XS.iconst X8.here hx rfl (hb hby d2_27) ?_
    exact k
  refine OFin.go S11 ?_
  exact finZ X8 hx Bd.notSynchronized (t := .boolean) Bd.returns (by simp) (hb hby d2_28) rfl (by decide) (by decide) (⟨rfl, N0, e8⟩)
theorem ef_rm2_3_3 (m : MethodId) (aA : Addr) : entryFrame m #[(.ref aA), (.ref aA)] 3 = mkF m 0 #[.val (.ref aA), .val (.ref aA), .unset] [] := by first | (simp [entryFrame, mkF, argsToLocals, Value.category]; done) | rfl
def Q_rm2_3_3 (Z : State)  (aC aS aT aA : Addr) (h0 : Heap) (n0 : Nat) (v : Option Value) (h : Heap) (L : List Loc) : Prop := v = some (.int (1 : Int32)) ∧ Fr n0 L ∧ h = h0
set_option maxRecDepth 65536 in
set_option maxHeartbeats 40000000 in
theorem rm2_3_3 (l : Launch) (Z : State) (a0 : Array Value) (hw : ∀ d ∈ tables_1, d.before a0 Z = true) (ws : List Jvm.Cond)  (aC aS aT aA : Addr) (h0 : Heap) (n0 : Nat) (Z0 : n0 ≤ h0.size) (FaC : Fld Z h0 aC "com/example/stowage/stowage/ip/Profile" "base" "Lcom/example/stowage/stowage/ip/Profile;" .null) (FaS : Fld Z h0 aS "com/example/stowage/stowage/ip/Profile" "base" "Lcom/example/stowage/stowage/ip/Profile;" (.ref aC)) (FaT : Fld Z h0 aT "com/example/stowage/stowage/ip/Profile" "base" "Lcom/example/stowage/stowage/ip/Profile;" (.ref aS)) (FaA : Fld Z h0 aA "com/example/stowage/stowage/ip/Profile" "base" "Lcom/example/stowage/stowage/ip/Profile;" (.ref aC)) (naCaS : aC ≠ aS) (naCaT : aC ≠ aT) (naCaA : aC ≠ aA) (naSaT : aS ≠ aT) (naSaA : aS ≠ aA) (naTaA : aT ≠ aA) :
    MetFree l (⟨"com/example/stowage/stowage/ip/Profile", "follows", "(Lcom/example/stowage/stowage/ip/Profile;)Z"⟩ : MethodName) (head1 (Jvm.Cond.code (⟨"com/example/stowage/stowage/ip/Profile", "follows", "(Lcom/example/stowage/stowage/ip/Profile;)Z"⟩ : MethodName) prog_149_method_9_code 3 (some .boolean) :: ws) ({ frames := 0, cells := 0, slots := 0, locals := 0 } : Room)) (fun a U => a = #[(.ref aA), (.ref aA)] ∧ Z.Warmed39 U.vm ∧ U.heap = h0) (fun _ _ _ _ _ => True) (fun _ U o U' => ∃ v L, o = .returned v ∧ (Q_rm2_3_3 Z aC aS aT aA h0 n0) v U'.heap L ∧ FrameEnd U o U' L ({ frames := 0, cells := 0, slots := 0, locals := 0 } : Room).cells ({ frames := 0, cells := 0, slots := 0, locals := 0 } : Room).slots) := by
  refine MetFree.of_bodySF (plainFor_of_name pn_1) hisR ?_
  intro p e s m args below meth c s₁ Bd hml0 hP hK
  obtain ⟨rfl, hZ, hh⟩ := hP
  have hx := Bd.exec
  have hby := Bd.bytes
  have hml : c.maxLocals = 3 := hml0
  have hown : s.vm.findClass "com/example/stowage/stowage/ip/Profile" = some m.cls := findClass_of_methodNamed Bd.named
  have hnm := (name_of_methodNamed Bd.named Bd.method).1
  have X0 : Stand p l e ({ frames := 0, cells := 0, slots := 0, locals := 0 } : Room) s m #[(.ref aA), (.ref aA)] below meth c s₁ [] 0 0 := Stand.of_body Bd
  have e0 : s₁.heap = h0 := by rw [← hh, Bd.state]; rfl
  have N0 := Fr.nil n0
  show OFin p e below (ORet (Q_rm2_3_3 Z aC aS aT aA h0 n0) s ({ frames := 0, cells := 0, slots := 0, locals := 0 } : Room).cells ({ frames := 0, cells := 0, slots := 0, locals := 0 } : Room).slots) (s₁.setTop (entryFrame m #[(.ref aA), (.ref aA)] 3))
  refine OFin.go (fun t k => castTop (ef_rm2_3_3 m aA) k) ?_
  show OFin p e below (ORet (Q_rm2_3_3 Z aC aS aT aA h0 n0) s ({ frames := 0, cells := 0, slots := 0, locals := 0 } : Room).cells ({ frames := 0, cells := 0, slots := 0, locals := 0 } : Room).slots) (s₁.setTop (mkF m 0 #[.val (.ref aA), .val (.ref aA), .unset] []))
  have S1 : ∀ t, Steps p.tables e below (s₁.setTop (mkF m 3 #[.val (.ref aA), .val (.ref aA), .val (.ref aA)] [(.ref aA)])) t → Steps p.tables e below (s₁.setTop (mkF m 0 #[.val (.ref aA), .val (.ref aA), .unset] [])) t := by
    intro t k
    show Steps p.tables e below (s₁.setTop (mkF m 0 #[.val (.ref aA), .val (.ref aA), .unset] [])) t
    refine XS.aloadN X0.here hx rfl (hb hby d2_0) rfl rfl ?_
    show Steps p.tables e below (s₁.setTop (mkF m 1 #[.val (.ref aA), .val (.ref aA), .unset] [(.ref aA)])) t
    refine XS.astoreN X0.here hx rfl (hb hby d2_1) rfl rfl (l' := #[.val (.ref aA), .val (.ref aA), .val (.ref aA)]) rfl ?_
    show Steps p.tables e below (s₁.setTop (mkF m 2 #[.val (.ref aA), .val (.ref aA), .val (.ref aA)] [])) t
    refine XS.aloadN X0.here hx rfl (hb hby d2_2) rfl rfl ?_
    exact k
  refine OFin.go S1 ?_
  refine OFin.go (fun t k => ?_ : ∀ t, Steps p.tables e below (s₁.setTop (mkF m 6 #[.val (.ref aA), .val (.ref aA), .val (.ref aA)] [])) t → Steps p.tables e below (s₁.setTop (mkF m 3 #[.val (.ref aA), .val (.ref aA), .val (.ref aA)] [(.ref aA)])) t) ?_
  · show Steps p.tables e below (s₁.setTop (mkF m 3 #[.val (.ref aA), .val (.ref aA), .val (.ref aA)] [(.ref aA)])) t
    refine XS.ifnullNo X0.here hx rfl (hb hby d2_3) rfl ?_
    exact k
  have S2 : ∀ t, Steps p.tables e below (s₁.setTop (mkF m 8 #[.val (.ref aA), .val (.ref aA), .val (.ref aA)] [(.ref aA), (.ref aA)])) t → Steps p.tables e below (s₁.setTop (mkF m 6 #[.val (.ref aA), .val (.ref aA), .val (.ref aA)] [])) t := by
    intro t k
    show Steps p.tables e below (s₁.setTop (mkF m 6 #[.val (.ref aA), .val (.ref aA), .val (.ref aA)] [])) t
    refine XS.aloadN X0.here hx rfl (hb hby d2_6) rfl rfl ?_
    show Steps p.tables e below (s₁.setTop (mkF m 7 #[.val (.ref aA), .val (.ref aA), .val (.ref aA)] [(.ref aA)])) t
    refine XS.aloadN X0.here hx rfl (hb hby d2_7) rfl rfl ?_
    exact k
  refine OFin.go S2 ?_
  refine OFin.go (fun t k => ?_ : ∀ t, Steps p.tables e below (s₁.setTop (mkF m 19 #[.val (.ref aA), .val (.ref aA), .val (.ref aA)] [])) t → Steps p.tables e below (s₁.setTop (mkF m 8 #[.val (.ref aA), .val (.ref aA), .val (.ref aA)] [(.ref aA), (.ref aA)])) t) ?_
  · show Steps p.tables e below (s₁.setTop (mkF m 8 #[.val (.ref aA), .val (.ref aA), .val (.ref aA)] [(.ref aA), (.ref aA)])) t
    refine Jvm.RoadKit.acmp (g := (mkF m 8 #[.val (.ref aA), .val (.ref aA), .val (.ref aA)] [(.ref aA), (.ref aA)])) X0 hx rfl rfl rfl (pc0 := 8) (pc' := 19) (same := true) rfl (hb hby d2_8) rfl (decide_eq_true rfl) (by decide) (by decide) ?_
    exact k
  have S3 : ∀ t, Steps p.tables e below (s₁.setTop (mkF m 20 #[.val (.ref aA), .val (.ref aA), .val (.ref aA)] [(.ref aA)])) t → Steps p.tables e below (s₁.setTop (mkF m 19 #[.val (.ref aA), .val (.ref aA), .val (.ref aA)] [])) t := by
    intro t k
    show Steps p.tables e below (s₁.setTop (mkF m 19 #[.val (.ref aA), .val (.ref aA), .val (.ref aA)] [])) t
    refine XS.aloadN X0.here hx rfl (hb hby d2_19) rfl rfl ?_
    exact k
  refine OFin.go S3 ?_
  refine OFin.go (fun t k => ?_ : ∀ t, Steps p.tables e below (s₁.setTop (mkF m 23 #[.val (.ref aA), .val (.ref aA), .val (.ref aA)] [])) t → Steps p.tables e below (s₁.setTop (mkF m 20 #[.val (.ref aA), .val (.ref aA), .val (.ref aA)] [(.ref aA)])) t) ?_
  · show Steps p.tables e below (s₁.setTop (mkF m 20 #[.val (.ref aA), .val (.ref aA), .val (.ref aA)] [(.ref aA)])) t
    refine XS.ifnullNo X0.here hx rfl (hb hby d2_20) rfl ?_
    exact k
  have S4 : ∀ t, Steps p.tables e below (s₁.setTop (mkF m 28 #[.val (.ref aA), .val (.ref aA), .val (.ref aA)] [(.int (1 : Int32))])) t → Steps p.tables e below (s₁.setTop (mkF m 23 #[.val (.ref aA), .val (.ref aA), .val (.ref aA)] [])) t := by
    intro t k
    show Steps p.tables e below (s₁.setTop (mkF m 23 #[.val (.ref aA), .val (.ref aA), .val (.ref aA)] [])) t
    refine XS.iconst X0.here hx rfl (hb hby d2_23) ?_
    show Steps p.tables e below (s₁.setTop (mkF m 24 #[.val (.ref aA), .val (.ref aA), .val (.ref aA)] [(.int (1 : Int32))])) t
    refine XS.goto X0.here hx rfl (pc0 := 24) (pc' := 28) rfl (hb hby d2_24) (by decide) (by decide) ?_
    exact k
  refine OFin.go S4 ?_
  exact finZ X0 hx Bd.notSynchronized (t := .boolean) Bd.returns (by simp) (hb hby d2_28) rfl (by decide) (by decide) (⟨rfl, N0, e0⟩)
theorem ef_rm2_3_4 (m : MethodId) (aA : Addr) : entryFrame m #[(.ref aA), .null] 3 = mkF m 0 #[.val (.ref aA), .val .null, .unset] [] := by first | (simp [entryFrame, mkF, argsToLocals, Value.category]; done) | rfl
def Q_rm2_3_4 (Z : State)  (aC aS aT aA : Addr) (h0 : Heap) (n0 : Nat) (v : Option Value) (h : Heap) (L : List Loc) : Prop := v = some (.int (0 : Int32)) ∧ Fr n0 L ∧ h = h0
set_option maxRecDepth 65536 in
set_option maxHeartbeats 40000000 in
theorem rm2_3_4 (l : Launch) (Z : State) (a0 : Array Value) (hw : ∀ d ∈ tables_1, d.before a0 Z = true) (ws : List Jvm.Cond)  (aC aS aT aA : Addr) (h0 : Heap) (n0 : Nat) (Z0 : n0 ≤ h0.size) (FaC : Fld Z h0 aC "com/example/stowage/stowage/ip/Profile" "base" "Lcom/example/stowage/stowage/ip/Profile;" .null) (FaS : Fld Z h0 aS "com/example/stowage/stowage/ip/Profile" "base" "Lcom/example/stowage/stowage/ip/Profile;" (.ref aC)) (FaT : Fld Z h0 aT "com/example/stowage/stowage/ip/Profile" "base" "Lcom/example/stowage/stowage/ip/Profile;" (.ref aS)) (FaA : Fld Z h0 aA "com/example/stowage/stowage/ip/Profile" "base" "Lcom/example/stowage/stowage/ip/Profile;" (.ref aC)) (naCaS : aC ≠ aS) (naCaT : aC ≠ aT) (naCaA : aC ≠ aA) (naSaT : aS ≠ aT) (naSaA : aS ≠ aA) (naTaA : aT ≠ aA) :
    MetFree l (⟨"com/example/stowage/stowage/ip/Profile", "follows", "(Lcom/example/stowage/stowage/ip/Profile;)Z"⟩ : MethodName) (head1 (Jvm.Cond.code (⟨"com/example/stowage/stowage/ip/Profile", "follows", "(Lcom/example/stowage/stowage/ip/Profile;)Z"⟩ : MethodName) prog_149_method_9_code 3 (some .boolean) :: ws) ({ frames := 0, cells := 0, slots := 0, locals := 0 } : Room)) (fun a U => a = #[(.ref aA), .null] ∧ Z.Warmed39 U.vm ∧ U.heap = h0) (fun _ _ _ _ _ => True) (fun _ U o U' => ∃ v L, o = .returned v ∧ (Q_rm2_3_4 Z aC aS aT aA h0 n0) v U'.heap L ∧ FrameEnd U o U' L ({ frames := 0, cells := 0, slots := 0, locals := 0 } : Room).cells ({ frames := 0, cells := 0, slots := 0, locals := 0 } : Room).slots) := by
  refine MetFree.of_bodySF (plainFor_of_name pn_1) hisR ?_
  intro p e s m args below meth c s₁ Bd hml0 hP hK
  obtain ⟨rfl, hZ, hh⟩ := hP
  have hx := Bd.exec
  have hby := Bd.bytes
  have hml : c.maxLocals = 3 := hml0
  have hown : s.vm.findClass "com/example/stowage/stowage/ip/Profile" = some m.cls := findClass_of_methodNamed Bd.named
  have hnm := (name_of_methodNamed Bd.named Bd.method).1
  have X0 : Stand p l e ({ frames := 0, cells := 0, slots := 0, locals := 0 } : Room) s m #[(.ref aA), .null] below meth c s₁ [] 0 0 := Stand.of_body Bd
  have e0 : s₁.heap = h0 := by rw [← hh, Bd.state]; rfl
  have N0 := Fr.nil n0
  show OFin p e below (ORet (Q_rm2_3_4 Z aC aS aT aA h0 n0) s ({ frames := 0, cells := 0, slots := 0, locals := 0 } : Room).cells ({ frames := 0, cells := 0, slots := 0, locals := 0 } : Room).slots) (s₁.setTop (entryFrame m #[(.ref aA), .null] 3))
  refine OFin.go (fun t k => castTop (ef_rm2_3_4 m aA) k) ?_
  show OFin p e below (ORet (Q_rm2_3_4 Z aC aS aT aA h0 n0) s ({ frames := 0, cells := 0, slots := 0, locals := 0 } : Room).cells ({ frames := 0, cells := 0, slots := 0, locals := 0 } : Room).slots) (s₁.setTop (mkF m 0 #[.val (.ref aA), .val .null, .unset] []))
  have S1 : ∀ t, Steps p.tables e below (s₁.setTop (mkF m 3 #[.val (.ref aA), .val .null, .val (.ref aA)] [(.ref aA)])) t → Steps p.tables e below (s₁.setTop (mkF m 0 #[.val (.ref aA), .val .null, .unset] [])) t := by
    intro t k
    show Steps p.tables e below (s₁.setTop (mkF m 0 #[.val (.ref aA), .val .null, .unset] [])) t
    refine XS.aloadN X0.here hx rfl (hb hby d2_0) rfl rfl ?_
    show Steps p.tables e below (s₁.setTop (mkF m 1 #[.val (.ref aA), .val .null, .unset] [(.ref aA)])) t
    refine XS.astoreN X0.here hx rfl (hb hby d2_1) rfl rfl (l' := #[.val (.ref aA), .val .null, .val (.ref aA)]) rfl ?_
    show Steps p.tables e below (s₁.setTop (mkF m 2 #[.val (.ref aA), .val .null, .val (.ref aA)] [])) t
    refine XS.aloadN X0.here hx rfl (hb hby d2_2) rfl rfl ?_
    exact k
  refine OFin.go S1 ?_
  refine OFin.go (fun t k => ?_ : ∀ t, Steps p.tables e below (s₁.setTop (mkF m 6 #[.val (.ref aA), .val .null, .val (.ref aA)] [])) t → Steps p.tables e below (s₁.setTop (mkF m 3 #[.val (.ref aA), .val .null, .val (.ref aA)] [(.ref aA)])) t) ?_
  · show Steps p.tables e below (s₁.setTop (mkF m 3 #[.val (.ref aA), .val .null, .val (.ref aA)] [(.ref aA)])) t
    refine XS.ifnullNo X0.here hx rfl (hb hby d2_3) rfl ?_
    exact k
  have S2 : ∀ t, Steps p.tables e below (s₁.setTop (mkF m 8 #[.val (.ref aA), .val .null, .val (.ref aA)] [.null, (.ref aA)])) t → Steps p.tables e below (s₁.setTop (mkF m 6 #[.val (.ref aA), .val .null, .val (.ref aA)] [])) t := by
    intro t k
    show Steps p.tables e below (s₁.setTop (mkF m 6 #[.val (.ref aA), .val .null, .val (.ref aA)] [])) t
    refine XS.aloadN X0.here hx rfl (hb hby d2_6) rfl rfl ?_
    show Steps p.tables e below (s₁.setTop (mkF m 7 #[.val (.ref aA), .val .null, .val (.ref aA)] [(.ref aA)])) t
    refine XS.aloadN X0.here hx rfl (hb hby d2_7) rfl rfl ?_
    exact k
  refine OFin.go S2 ?_
  refine OFin.go (fun t k => ?_ : ∀ t, Steps p.tables e below (s₁.setTop (mkF m 11 #[.val (.ref aA), .val .null, .val (.ref aA)] [])) t → Steps p.tables e below (s₁.setTop (mkF m 8 #[.val (.ref aA), .val .null, .val (.ref aA)] [.null, (.ref aA)])) t) ?_
  · show Steps p.tables e below (s₁.setTop (mkF m 8 #[.val (.ref aA), .val .null, .val (.ref aA)] [.null, (.ref aA)])) t
    refine Jvm.RoadKit.acmp (g := (mkF m 8 #[.val (.ref aA), .val .null, .val (.ref aA)] [.null, (.ref aA)])) X0 hx rfl rfl rfl (pc0 := 8) (pc' := 11) (same := false) rfl (hb hby d2_8) rfl (decide_eq_false nofun) (by decide) (by decide) ?_
    exact k
  have S3 : ∀ t, Steps p.tables e below (s₁.setTop (mkF m 12 #[.val (.ref aA), .val .null, .val (.ref aA)] [(.ref aA)])) t → Steps p.tables e below (s₁.setTop (mkF m 11 #[.val (.ref aA), .val .null, .val (.ref aA)] [])) t := by
    intro t k
    show Steps p.tables e below (s₁.setTop (mkF m 11 #[.val (.ref aA), .val .null, .val (.ref aA)] [])) t
    refine XS.aloadN X0.here hx rfl (hb hby d2_11) rfl rfl ?_
    exact k
  refine OFin.go S3 ?_
  obtain ⟨T4, X4, e4, st4⟩ := getF X0 hx hZ hown (host := "") (Or.inl (hw _ (List.mem_of_getElem? (i := 15) rfl))) Via.refl e0 FaA (g := (mkF m 12 #[.val (.ref aA), .val .null, .val (.ref aA)] [(.ref aA)])) rfl rfl (hb hby d2_12)
  refine OFin.go st4 ?_
  show OFin p e below _ (T4.setTop (mkF m 15 #[.val (.ref aA), .val .null, .val (.ref aA)] [(.ref aC)]))
  have S5 : ∀ t, Steps p.tables e below (T4.setTop (mkF m 3 #[.val (.ref aA), .val .null, .val (.ref aC)] [(.ref aC)])) t → Steps p.tables e below (T4.setTop (mkF m 15 #[.val (.ref aA), .val .null, .val (.ref aA)] [(.ref aC)])) t := by
    intro t k
    show Steps p.tables e below (T4.setTop (mkF m 15 #[.val (.ref aA), .val .null, .val (.ref aA)] [(.ref aC)])) t
    refine XS.astoreN X4.here hx rfl (hb hby d2_15) rfl rfl (l' := #[.val (.ref aA), .val .null, .val (.ref aC)]) rfl ?_
    show Steps p.tables e below (T4.setTop (mkF m 16 #[.val (.ref aA), .val .null, .val (.ref aC)] [])) t
    refine XS.goto X4.here hx rfl (pc0 := 16) (pc' := 2) rfl (hb hby d2_16) (by decide) (by decide) ?_
    show Steps p.tables e below (T4.setTop (mkF m 2 #[.val (.ref aA), .val .null, .val (.ref aC)] [])) t
    refine XS.aloadN X4.here hx rfl (hb hby d2_2) rfl rfl ?_
    exact k
  refine OFin.go S5 ?_
  refine OFin.go (fun t k => ?_ : ∀ t, Steps p.tables e below (T4.setTop (mkF m 6 #[.val (.ref aA), .val .null, .val (.ref aC)] [])) t → Steps p.tables e below (T4.setTop (mkF m 3 #[.val (.ref aA), .val .null, .val (.ref aC)] [(.ref aC)])) t) ?_
  · show Steps p.tables e below (T4.setTop (mkF m 3 #[.val (.ref aA), .val .null, .val (.ref aC)] [(.ref aC)])) t
    refine XS.ifnullNo X4.here hx rfl (hb hby d2_3) rfl ?_
    exact k
  have S6 : ∀ t, Steps p.tables e below (T4.setTop (mkF m 8 #[.val (.ref aA), .val .null, .val (.ref aC)] [.null, (.ref aC)])) t → Steps p.tables e below (T4.setTop (mkF m 6 #[.val (.ref aA), .val .null, .val (.ref aC)] [])) t := by
    intro t k
    show Steps p.tables e below (T4.setTop (mkF m 6 #[.val (.ref aA), .val .null, .val (.ref aC)] [])) t
    refine XS.aloadN X4.here hx rfl (hb hby d2_6) rfl rfl ?_
    show Steps p.tables e below (T4.setTop (mkF m 7 #[.val (.ref aA), .val .null, .val (.ref aC)] [(.ref aC)])) t
    refine XS.aloadN X4.here hx rfl (hb hby d2_7) rfl rfl ?_
    exact k
  refine OFin.go S6 ?_
  refine OFin.go (fun t k => ?_ : ∀ t, Steps p.tables e below (T4.setTop (mkF m 11 #[.val (.ref aA), .val .null, .val (.ref aC)] [])) t → Steps p.tables e below (T4.setTop (mkF m 8 #[.val (.ref aA), .val .null, .val (.ref aC)] [.null, (.ref aC)])) t) ?_
  · show Steps p.tables e below (T4.setTop (mkF m 8 #[.val (.ref aA), .val .null, .val (.ref aC)] [.null, (.ref aC)])) t
    refine Jvm.RoadKit.acmp (g := (mkF m 8 #[.val (.ref aA), .val .null, .val (.ref aC)] [.null, (.ref aC)])) X4 hx rfl rfl rfl (pc0 := 8) (pc' := 11) (same := false) rfl (hb hby d2_8) rfl (decide_eq_false nofun) (by decide) (by decide) ?_
    exact k
  have S7 : ∀ t, Steps p.tables e below (T4.setTop (mkF m 12 #[.val (.ref aA), .val .null, .val (.ref aC)] [(.ref aC)])) t → Steps p.tables e below (T4.setTop (mkF m 11 #[.val (.ref aA), .val .null, .val (.ref aC)] [])) t := by
    intro t k
    show Steps p.tables e below (T4.setTop (mkF m 11 #[.val (.ref aA), .val .null, .val (.ref aC)] [])) t
    refine XS.aloadN X4.here hx rfl (hb hby d2_11) rfl rfl ?_
    exact k
  refine OFin.go S7 ?_
  obtain ⟨T8, X8, e8, st8⟩ := getF X4 hx hZ hown (host := "") (Or.inl (hw _ (List.mem_of_getElem? (i := 15) rfl))) Via.refl e4 FaC (g := (mkF m 12 #[.val (.ref aA), .val .null, .val (.ref aC)] [(.ref aC)])) rfl rfl (hb hby d2_12)
  refine OFin.go st8 ?_
  show OFin p e below _ (T8.setTop (mkF m 15 #[.val (.ref aA), .val .null, .val (.ref aC)] [.null]))
  have S9 : ∀ t, Steps p.tables e below (T8.setTop (mkF m 3 #[.val (.ref aA), .val .null, .val .null] [.null])) t → Steps p.tables e below (T8.setTop (mkF m 15 #[.val (.ref aA), .val .null, .val (.ref aC)] [.null])) t := by
    intro t k
    show Steps p.tables e below (T8.setTop (mkF m 15 #[.val (.ref aA), .val .null, .val (.ref aC)] [.null])) t
    refine XS.astoreN X8.here hx rfl (hb hby d2_15) rfl rfl (l' := #[.val (.ref aA), .val .null, .val .null]) rfl ?_
    show Steps p.tables e below (T8.setTop (mkF m 16 #[.val (.ref aA), .val .null, .val .null] [])) t
    refine XS.goto X8.here hx rfl (pc0 := 16) (pc' := 2) rfl (hb hby d2_16) (by decide) (by decide) ?_
    show Steps p.tables e below (T8.setTop (mkF m 2 #[.val (.ref aA), .val .null, .val .null] [])) t
    refine XS.aloadN X8.here hx rfl (hb hby d2_2) rfl rfl ?_
    exact k
  refine OFin.go S9 ?_
  refine OFin.go (fun t k => ?_ : ∀ t, Steps p.tables e below (T8.setTop (mkF m 19 #[.val (.ref aA), .val .null, .val .null] [])) t → Steps p.tables e below (T8.setTop (mkF m 3 #[.val (.ref aA), .val .null, .val .null] [.null])) t) ?_
  · show Steps p.tables e below (T8.setTop (mkF m 3 #[.val (.ref aA), .val .null, .val .null] [.null])) t
    refine XS.ifnullYes X8.here hx rfl (pc0 := 3) (pc' := 19) rfl (hb hby d2_3) rfl (by decide) (by decide) ?_
    exact k
  have S10 : ∀ t, Steps p.tables e below (T8.setTop (mkF m 20 #[.val (.ref aA), .val .null, .val .null] [.null])) t → Steps p.tables e below (T8.setTop (mkF m 19 #[.val (.ref aA), .val .null, .val .null] [])) t := by
    intro t k
    show Steps p.tables e below (T8.setTop (mkF m 19 #[.val (.ref aA), .val .null, .val .null] [])) t
    refine XS.aloadN X8.here hx rfl (hb hby d2_19) rfl rfl ?_
    exact k
  refine OFin.go S10 ?_
  refine OFin.go (fun t k => ?_ : ∀ t, Steps p.tables e below (T8.setTop (mkF m 27 #[.val (.ref aA), .val .null, .val .null] [])) t → Steps p.tables e below (T8.setTop (mkF m 20 #[.val (.ref aA), .val .null, .val .null] [.null])) t) ?_
  · show Steps p.tables e below (T8.setTop (mkF m 20 #[.val (.ref aA), .val .null, .val .null] [.null])) t
    refine XS.ifnullYes X8.here hx rfl (pc0 := 20) (pc' := 27) rfl (hb hby d2_20) rfl (by decide) (by decide) ?_
    exact k
  have S11 : ∀ t, Steps p.tables e below (T8.setTop (mkF m 28 #[.val (.ref aA), .val .null, .val .null] [(.int (0 : Int32))])) t → Steps p.tables e below (T8.setTop (mkF m 27 #[.val (.ref aA), .val .null, .val .null] [])) t := by
    intro t k
    show Steps p.tables e below (T8.setTop (mkF m 27 #[.val (.ref aA), .val .null, .val .null] [])) t
    refine XS.iconst X8.here hx rfl (hb hby d2_27) ?_
    exact k
  refine OFin.go S11 ?_
  exact finZ X8 hx Bd.notSynchronized (t := .boolean) Bd.returns (by simp) (hb hby d2_28) rfl (by decide) (by decide) (⟨rfl, N0, e8⟩)
theorem own_k4 (n : Int32) {z : Int32} (h : z = ((n &&& (2147483647 : Int32)) % (4 : Int32))) : z = (0 : Int32) ∨ z = (1 : Int32) ∨ z = (2 : Int32) ∨ z = (3 : Int32) := by
  have h1 := (c_iremV (n &&& (2147483647 : Int32)) (4 : Int32)).1 (c_and n (2147483647 : Int32) (by decide)).1 (by decide)
  have h3 := h1.1; have h4 := h1.2.1
  rw [← h] at h3 h4
  simp only [Int32.reduceToInt] at h4
  simp only [← Int32.toInt_inj, Int32.reduceToInt]
  omega
theorem own_k5 (n : Int32) {z : Int32} (h : z = ((n &&& (2147483647 : Int32)) % (5 : Int32))) : z = (0 : Int32) ∨ z = (1 : Int32) ∨ z = (2 : Int32) ∨ z = (3 : Int32) ∨ z = (4 : Int32) := by
  have h1 := (c_iremV (n &&& (2147483647 : Int32)) (5 : Int32)).1 (c_and n (2147483647 : Int32) (by decide)).1 (by decide)
  have h3 := h1.1; have h4 := h1.2.1
  rw [← h] at h3 h4
  simp only [Int32.reduceToInt] at h4
  simp only [← Int32.toInt_inj, Int32.reduceToInt]
  omega
theorem ef_rm0 (m : MethodId) (u0 : Int32) (u1 : Int32) : entryFrame m #[(.int u0), (.int u1)] maxLocals = mkF m 0 #[.val (.int u0), .val (.int u1), .unset, .unset, .unset, .unset, .unset] [] := by first | (simp [entryFrame, mkF, argsToLocals, Value.category, maxLocals]; done) | rfl
def Q_rm0 (Z : State) (u0 : Int32) (u1 : Int32) (aC aS aT aA : Addr) (h0 : Heap) (n0 : Nat) (v : Option Value) (h : Heap) (L : List Loc) : Prop := v = some (.int (1 : Int32)) ∧ Fr n0 L
theorem pd_0 : parseMethodDescriptor "(I)Lcom/example/stowage/stowage/ip/Profile;" = some ⟨[.int], some (.object "com/example/stowage/stowage/ip/Profile")⟩ := by decide +kernel
theorem pd_1 : parseMethodDescriptor "(Lcom/example/stowage/stowage/ip/Profile;)Z" = some ⟨[(.object "com/example/stowage/stowage/ip/Profile")], some .boolean⟩ := by decide +kernel
set_option maxRecDepth 65536 in
set_option maxHeartbeats 40000000 in
theorem rm0 (l : Launch) (Z : State) (a0 : Array Value) (hw : ∀ d ∈ tables_1, d.before a0 Z = true) (ws : List Jvm.Cond) (u0 : Int32) (u1 : Int32) (aC aS aT aA : Addr) (h0 : Heap) (n0 : Nat) (Z0 : n0 ≤ h0.size) (SaC : Sta Z h0 "com/example/stowage/stowage/ip/Profile" "CSIP" "Lcom/example/stowage/stowage/ip/Profile;" (.ref aC)) (SaS : Sta Z h0 "com/example/stowage/stowage/ip/Profile" "SIP" "Lcom/example/stowage/stowage/ip/Profile;" (.ref aS)) (SaT : Sta Z h0 "com/example/stowage/stowage/ip/Profile" "CITS_SIARD" "Lcom/example/stowage/stowage/ip/Profile;" (.ref aT)) (SaA : Sta Z h0 "com/example/stowage/stowage/ip/Profile" "AIP" "Lcom/example/stowage/stowage/ip/Profile;" (.ref aA)) (EaC : Exa Z h0 aC "com/example/stowage/stowage/ip/Profile") (EaS : Exa Z h0 aS "com/example/stowage/stowage/ip/Profile") (EaT : Exa Z h0 aT "com/example/stowage/stowage/ip/Profile") (EaA : Exa Z h0 aA "com/example/stowage/stowage/ip/Profile") (FaC : Fld Z h0 aC "com/example/stowage/stowage/ip/Profile" "base" "Lcom/example/stowage/stowage/ip/Profile;" .null) (FaS : Fld Z h0 aS "com/example/stowage/stowage/ip/Profile" "base" "Lcom/example/stowage/stowage/ip/Profile;" (.ref aC)) (FaT : Fld Z h0 aT "com/example/stowage/stowage/ip/Profile" "base" "Lcom/example/stowage/stowage/ip/Profile;" (.ref aS)) (FaA : Fld Z h0 aA "com/example/stowage/stowage/ip/Profile" "base" "Lcom/example/stowage/stowage/ip/Profile;" (.ref aC)) (naCaS : aC ≠ aS) (naCaT : aC ≠ aT) (naCaA : aC ≠ aA) (naSaT : aS ≠ aT) (naSaA : aS ≠ aA) (naTaA : aT ≠ aA) :
    MetFree l x (head1 (Jvm.Cond.code x code maxLocals ret :: ws) room_1) (fun a U => a = #[(.int u0), (.int u1)] ∧ Z.Warmed39 U.vm ∧ U.heap = h0) (fun _ _ _ _ _ => True) (fun _ U o U' => ∃ v L, o = .returned v ∧ (Q_rm0 Z u0 u1 aC aS aT aA h0 n0) v U'.heap L ∧ FrameEnd U o U' L 0 0) := by
  refine MetFree.of_bodySF (plainFor_of_name pn_0) hisR ?_
  intro p e s m args below meth c s₁ Bd hml0 hP hK
  obtain ⟨rfl, hZ, hh⟩ := hP
  have hx := Bd.exec
  have hby := Bd.bytes
  have hml : c.maxLocals = 7 := hml0
  have hown : s.vm.findClass "com/example/stowage/stowage/ip/ProfileFollowsPinLaw" = some m.cls := findClass_of_methodNamed Bd.named
  have hnm := (name_of_methodNamed Bd.named Bd.method).1
  have X0 : Stand p l e room_1 s m #[(.int u0), (.int u1)] below meth c s₁ [] 0 0 := Stand.of_body Bd
  have e0 : s₁.heap = h0 := by rw [← hh, Bd.state]; rfl
  have N0 := Fr.nil n0
  show OFin p e below (ORet (Q_rm0 Z u0 u1 aC aS aT aA h0 n0) s 0 0) (s₁.setTop (entryFrame m #[(.int u0), (.int u1)] maxLocals))
  refine OFin.go (fun t k => castTop (ef_rm0 m u0 u1) k) ?_
  show OFin p e below (ORet (Q_rm0 Z u0 u1 aC aS aT aA h0 n0) s 0 0) (s₁.setTop (mkF m 0 #[.val (.int u0), .val (.int u1), .unset, .unset, .unset, .unset, .unset] []))
  have S1 : ∀ t, Steps p.tables e below (s₁.setTop (mkF m 7 #[.val (.int u0), .val (.int u1), .val (.int ((u0 &&& (2147483647 : Int32)) % (4 : Int32))), .unset, .unset, .unset, .unset] [])) t → Steps p.tables e below (s₁.setTop (mkF m 0 #[.val (.int u0), .val (.int u1), .unset, .unset, .unset, .unset, .unset] [])) t := by
    intro t k
    show Steps p.tables e below (s₁.setTop (mkF m 0 #[.val (.int u0), .val (.int u1), .unset, .unset, .unset, .unset, .unset] [])) t
    refine XS.iloadN X0.here hx rfl (hb hby at_0) rfl ?_
    show Steps p.tables e below (s₁.setTop (mkF m 1 #[.val (.int u0), .val (.int u1), .unset, .unset, .unset, .unset, .unset] [(.int u0)])) t
    refine X0.ldcInt hx hown (mvT hZ (hw _ (List.mem_of_getElem? (i := 0) rfl))) (g := (mkF m 1 #[.val (.int u0), .val (.int u1), .unset, .unset, .unset, .unset, .unset] [(.int u0)])) rfl (hb hby at_1) _ ?_
    show Steps p.tables e below (s₁.setTop (mkF m 3 #[.val (.int u0), .val (.int u1), .unset, .unset, .unset, .unset, .unset] [(.int (2147483647 : Int32)), (.int u0)])) t
    refine XS.iand X0.here hx rfl (hb hby at_3) rfl ?_
    show Steps p.tables e below (s₁.setTop (mkF m 4 #[.val (.int u0), .val (.int u1), .unset, .unset, .unset, .unset, .unset] [(.int (u0 &&& (2147483647 : Int32)))])) t
    refine XS.iconst X0.here hx rfl (hb hby at_4) ?_
    show Steps p.tables e below (s₁.setTop (mkF m 5 #[.val (.int u0), .val (.int u1), .unset, .unset, .unset, .unset, .unset] [(.int (4 : Int32)), (.int (u0 &&& (2147483647 : Int32)))])) t
    refine iremM X0 hx rfl (hb hby at_5) rfl (by decide) ?_
    show Steps p.tables e below (s₁.setTop (mkF m 6 #[.val (.int u0), .val (.int u1), .unset, .unset, .unset, .unset, .unset] [(.int ((u0 &&& (2147483647 : Int32)) % (4 : Int32)))])) t
    refine XS.istoreN X0.here hx rfl (hb hby at_6) rfl (l' := #[.val (.int u0), .val (.int u1), .val (.int ((u0 &&& (2147483647 : Int32)) % (4 : Int32))), .unset, .unset, .unset, .unset]) rfl ?_
    exact k
  refine OFin.go S1 ?_
  obtain ⟨kk2, hkk2⟩ : ∃ z : Int32, z = ((u0 &&& (2147483647 : Int32)) % (4 : Int32)) := ⟨_, rfl⟩
  rw [← hkk2]
  rcases (own_k4 _ hkk2 : kk2 = (0 : Int32) ∨ kk2 = (1 : Int32) ∨ kk2 = (2 : Int32) ∨ kk2 = (3 : Int32)) with hkk2'  | hkk2'  | hkk2'  | hkk2' 
  ·
    subst hkk2'
    show OFin p e below _ (s₁.setTop (mkF m 7 #[.val (.int u0), .val (.int u1), .val (.int (0 : Int32)), .unset, .unset, .unset, .unset] []))
    have S3 : ∀ t, Steps p.tables e below (s₁.setTop (mkF m 14 #[.val (.int u0), .val (.int u1), .val (.int (0 : Int32)), .val (.int ((u1 &&& (2147483647 : Int32)) % (5 : Int32))), .unset, .unset, .unset] [])) t → Steps p.tables e below (s₁.setTop (mkF m 7 #[.val (.int u0), .val (.int u1), .val (.int (0 : Int32)), .unset, .unset, .unset, .unset] [])) t := by
      intro t k
      show Steps p.tables e below (s₁.setTop (mkF m 7 #[.val (.int u0), .val (.int u1), .val (.int (0 : Int32)), .unset, .unset, .unset, .unset] [])) t
      refine XS.iloadN X0.here hx rfl (hb hby at_7) rfl ?_
      show Steps p.tables e below (s₁.setTop (mkF m 8 #[.val (.int u0), .val (.int u1), .val (.int (0 : Int32)), .unset, .unset, .unset, .unset] [(.int u1)])) t
      refine X0.ldcInt hx hown (mvT hZ (hw _ (List.mem_of_getElem? (i := 0) rfl))) (g := (mkF m 8 #[.val (.int u0), .val (.int u1), .val (.int (0 : Int32)), .unset, .unset, .unset, .unset] [(.int u1)])) rfl (hb hby at_8) _ ?_
      show Steps p.tables e below (s₁.setTop (mkF m 10 #[.val (.int u0), .val (.int u1), .val (.int (0 : Int32)), .unset, .unset, .unset, .unset] [(.int (2147483647 : Int32)), (.int u1)])) t
      refine XS.iand X0.here hx rfl (hb hby at_10) rfl ?_
      show Steps p.tables e below (s₁.setTop (mkF m 11 #[.val (.int u0), .val (.int u1), .val (.int (0 : Int32)), .unset, .unset, .unset, .unset] [(.int (u1 &&& (2147483647 : Int32)))])) t
      refine XS.iconst X0.here hx rfl (hb hby at_11) ?_
      show Steps p.tables e below (s₁.setTop (mkF m 12 #[.val (.int u0), .val (.int u1), .val (.int (0 : Int32)), .unset, .unset, .unset, .unset] [(.int (5 : Int32)), (.int (u1 &&& (2147483647 : Int32)))])) t
      refine iremM X0 hx rfl (hb hby at_12) rfl (by decide) ?_
      show Steps p.tables e below (s₁.setTop (mkF m 13 #[.val (.int u0), .val (.int u1), .val (.int (0 : Int32)), .unset, .unset, .unset, .unset] [(.int ((u1 &&& (2147483647 : Int32)) % (5 : Int32)))])) t
      refine XS.istoreN X0.here hx rfl (hb hby at_13) rfl (l' := #[.val (.int u0), .val (.int u1), .val (.int (0 : Int32)), .val (.int ((u1 &&& (2147483647 : Int32)) % (5 : Int32))), .unset, .unset, .unset]) rfl ?_
      exact k
    refine OFin.go S3 ?_
    obtain ⟨kk4, hkk4⟩ : ∃ z : Int32, z = ((u1 &&& (2147483647 : Int32)) % (5 : Int32)) := ⟨_, rfl⟩
    rw [← hkk4]
    rcases (own_k5 _ hkk4 : kk4 = (0 : Int32) ∨ kk4 = (1 : Int32) ∨ kk4 = (2 : Int32) ∨ kk4 = (3 : Int32) ∨ kk4 = (4 : Int32)) with hkk4'  | hkk4'  | hkk4'  | hkk4'  | hkk4' 
    ·
      subst hkk4'
      show OFin p e below _ (s₁.setTop (mkF m 14 #[.val (.int u0), .val (.int u1), .val (.int (0 : Int32)), .val (.int (0 : Int32)), .unset, .unset, .unset] []))
      have S5 : ∀ t, Steps p.tables e below (s₁.setTop (mkF m 15 #[.val (.int u0), .val (.int u1), .val (.int (0 : Int32)), .val (.int (0 : Int32)), .unset, .unset, .unset] [(.int (0 : Int32))])) t → Steps p.tables e below (s₁.setTop (mkF m 14 #[.val (.int u0), .val (.int u1), .val (.int (0 : Int32)), .val (.int (0 : Int32)), .unset, .unset, .unset] [])) t := by
        intro t k
        show Steps p.tables e below (s₁.setTop (mkF m 14 #[.val (.int u0), .val (.int u1), .val (.int (0 : Int32)), .val (.int (0 : Int32)), .unset, .unset, .unset] [])) t
        refine XS.iloadN X0.here hx rfl (hb hby at_14) rfl ?_
        exact k
      refine OFin.go S5 ?_
      obtain ⟨_, T6, Lc6, X6, hQ6, st6⟩ := callQ X0 hx hZ (y := (⟨"com/example/stowage/stowage/ip/ProfileFollowsPinLaw", "pick", "(I)Lcom/example/stowage/stowage/ip/Profile;"⟩ : MethodName)) hown (hw _ (List.mem_of_getElem? (i := 1) rfl)) (hw _ (List.mem_of_getElem? (i := 2) rfl)) (hw _ (List.mem_of_getElem? (i := 3) rfl)) (hw _ (List.mem_of_getElem? (i := 4) rfl)) (by decide) (argsL := [(.int (0 : Int32))]) (rest := []) (rm1 l Z a0 hw [] (0 : Int32) aC aS aT aA h0 n0 Z0 SaC SaS SaT SaA) (W := 0) (by decide) (by decide) e0 (g := (mkF m 15 #[.val (.int u0), .val (.int u1), .val (.int (0 : Int32)), .val (.int (0 : Int32)), .unset, .unset, .unset] [(.int (0 : Int32))])) rfl (by rw [hml]; rfl) (lenOf pd_0 rfl) rfl (by show 2 * 0 + _ ≤ _; exact Nat.le_of_eq rfl) (hb hby at_15) (Nat.le_of_ble_eq_true rfl) (Nat.le_of_ble_eq_true rfl)
      obtain ⟨rfl, N6q, e6⟩ := hQ6
      have N6 := Fr.app N0 N6q
      refine OFin.go st6 ?_
      show OFin p e below _ (T6.setTop (mkF m 18 #[.val (.int u0), .val (.int u1), .val (.int (0 : Int32)), .val (.int (0 : Int32)), .unset, .unset, .unset] [(.ref aC)]))
      have S7 : ∀ t, Steps p.tables e below (T6.setTop (mkF m 21 #[.val (.int u0), .val (.int u1), .val (.int (0 : Int32)), .val (.int (0 : Int32)), .val (.ref aC), .unset, .unset] [(.int (0 : Int32))])) t → Steps p.tables e below (T6.setTop (mkF m 18 #[.val (.int u0), .val (.int u1), .val (.int (0 : Int32)), .val (.int (0 : Int32)), .unset, .unset, .unset] [(.ref aC)])) t := by
        intro t k
        show Steps p.tables e below (T6.setTop (mkF m 18 #[.val (.int u0), .val (.int u1), .val (.int (0 : Int32)), .val (.int (0 : Int32)), .unset, .unset, .unset] [(.ref aC)])) t
        refine XS.astore X6.here hx rfl (hb hby at_18) rfl rfl (l' := #[.val (.int u0), .val (.int u1), .val (.int (0 : Int32)), .val (.int (0 : Int32)), .val (.ref aC), .unset, .unset]) rfl ?_
        show Steps p.tables e below (T6.setTop (mkF m 20 #[.val (.int u0), .val (.int u1), .val (.int (0 : Int32)), .val (.int (0 : Int32)), .val (.ref aC), .unset, .unset] [])) t
        refine XS.iloadN X6.here hx rfl (hb hby at_20) rfl ?_
        exact k
      refine OFin.go S7 ?_
      obtain ⟨_, T8, Lc8, X8, hQ8, st8⟩ := callQ X6 hx hZ (y := (⟨"com/example/stowage/stowage/ip/ProfileFollowsPinLaw", "pick", "(I)Lcom/example/stowage/stowage/ip/Profile;"⟩ : MethodName)) hown (hw _ (List.mem_of_getElem? (i := 1) rfl)) (hw _ (List.mem_of_getElem? (i := 2) rfl)) (hw _ (List.mem_of_getElem? (i := 3) rfl)) (hw _ (List.mem_of_getElem? (i := 4) rfl)) (by decide) (argsL := [(.int (0 : Int32))]) (rest := []) (rm1 l Z a0 hw [] (0 : Int32) aC aS aT aA h0 n0 Z0 SaC SaS SaT SaA) (W := 0) (by decide) (by decide) e6 (g := (mkF m 21 #[.val (.int u0), .val (.int u1), .val (.int (0 : Int32)), .val (.int (0 : Int32)), .val (.ref aC), .unset, .unset] [(.int (0 : Int32))])) rfl (by rw [hml]; rfl) (lenOf pd_0 rfl) rfl (by show 2 * 0 + _ ≤ _; exact Nat.le_of_eq rfl) (hb hby at_21) (Nat.le_of_ble_eq_true rfl) (Nat.le_of_ble_eq_true rfl)
      obtain ⟨rfl, N8q, e8⟩ := hQ8
      have N8 := Fr.app N6 N8q
      refine OFin.go st8 ?_
      show OFin p e below _ (T8.setTop (mkF m 24 #[.val (.int u0), .val (.int u1), .val (.int (0 : Int32)), .val (.int (0 : Int32)), .val (.ref aC), .unset, .unset] [(.ref aC)]))
      have S9 : ∀ t, Steps p.tables e below (T8.setTop (mkF m 28 #[.val (.int u0), .val (.int u1), .val (.int (0 : Int32)), .val (.int (0 : Int32)), .val (.ref aC), .val (.ref aC), .unset] [(.int (4 : Int32)), (.int (0 : Int32))])) t → Steps p.tables e below (T8.setTop (mkF m 24 #[.val (.int u0), .val (.int u1), .val (.int (0 : Int32)), .val (.int (0 : Int32)), .val (.ref aC), .unset, .unset] [(.ref aC)])) t := by
        intro t k
        show Steps p.tables e below (T8.setTop (mkF m 24 #[.val (.int u0), .val (.int u1), .val (.int (0 : Int32)), .val (.int (0 : Int32)), .val (.ref aC), .unset, .unset] [(.ref aC)])) t
        refine XS.astore X8.here hx rfl (hb hby at_24) rfl rfl (l' := #[.val (.int u0), .val (.int u1), .val (.int (0 : Int32)), .val (.int (0 : Int32)), .val (.ref aC), .val (.ref aC), .unset]) rfl ?_
        show Steps p.tables e below (T8.setTop (mkF m 26 #[.val (.int u0), .val (.int u1), .val (.int (0 : Int32)), .val (.int (0 : Int32)), .val (.ref aC), .val (.ref aC), .unset] [])) t
        refine XS.iloadN X8.here hx rfl (hb hby at_26) rfl ?_
        show Steps p.tables e below (T8.setTop (mkF m 27 #[.val (.int u0), .val (.int u1), .val (.int (0 : Int32)), .val (.int (0 : Int32)), .val (.ref aC), .val (.ref aC), .unset] [(.int (0 : Int32))])) t
        refine XS.iconst X8.here hx rfl (hb hby at_27) ?_
        exact k
      refine OFin.go S9 ?_
      have S10 : ∀ t, Steps p.tables e below (T8.setTop (mkF m 37 #[.val (.int u0), .val (.int u1), .val (.int (0 : Int32)), .val (.int (0 : Int32)), .val (.ref aC), .val (.ref aC), .unset] [])) t → Steps p.tables e below (T8.setTop (mkF m 28 #[.val (.int u0), .val (.int u1), .val (.int (0 : Int32)), .val (.int (0 : Int32)), .val (.ref aC), .val (.ref aC), .unset] [(.int (4 : Int32)), (.int (0 : Int32))])) t := by
        intro t k
        show Steps p.tables e below (T8.setTop (mkF m 28 #[.val (.int u0), .val (.int u1), .val (.int (0 : Int32)), .val (.int (0 : Int32)), .val (.ref aC), .val (.ref aC), .unset] [(.int (4 : Int32)), (.int (0 : Int32))])) t
        refine XS.icmpYes X8.here hx rfl (pc0 := 28) (pc' := 37) rfl (hb hby at_28) rfl (feq (by decide)).2 (by decide) (by decide) ?_
        exact k
      refine OFin.go S10 ?_
      have S11 : ∀ t, Steps p.tables e below (T8.setTop (mkF m 39 #[.val (.int u0), .val (.int u1), .val (.int (0 : Int32)), .val (.int (0 : Int32)), .val (.ref aC), .val (.ref aC), .unset] [(.int (0 : Int32)), (.int (0 : Int32))])) t → Steps p.tables e below (T8.setTop (mkF m 37 #[.val (.int u0), .val (.int u1), .val (.int (0 : Int32)), .val (.int (0 : Int32)), .val (.ref aC), .val (.ref aC), .unset] [])) t := by
        intro t k
        show Steps p.tables e below (T8.setTop (mkF m 37 #[.val (.int u0), .val (.int u1), .val (.int (0 : Int32)), .val (.int (0 : Int32)), .val (.ref aC), .val (.ref aC), .unset] [])) t
        refine XS.iloadN X8.here hx rfl (hb hby at_37) rfl ?_
        show Steps p.tables e below (T8.setTop (mkF m 38 #[.val (.int u0), .val (.int u1), .val (.int (0 : Int32)), .val (.int (0 : Int32)), .val (.ref aC), .val (.ref aC), .unset] [(.int (0 : Int32))])) t
        refine XS.iloadN X8.here hx rfl (hb hby at_38) rfl ?_
        exact k
      refine OFin.go S11 ?_
      have S12 : ∀ t, Steps p.tables e below (T8.setTop (mkF m 42 #[.val (.int u0), .val (.int u1), .val (.int (0 : Int32)), .val (.int (0 : Int32)), .val (.ref aC), .val (.ref aC), .unset] [])) t → Steps p.tables e below (T8.setTop (mkF m 39 #[.val (.int u0), .val (.int u1), .val (.int (0 : Int32)), .val (.int (0 : Int32)), .val (.ref aC), .val (.ref aC), .unset] [(.int (0 : Int32)), (.int (0 : Int32))])) t := by
        intro t k
        show Steps p.tables e below (T8.setTop (mkF m 39 #[.val (.int u0), .val (.int u1), .val (.int (0 : Int32)), .val (.int (0 : Int32)), .val (.ref aC), .val (.ref aC), .unset] [(.int (0 : Int32)), (.int (0 : Int32))])) t
        refine XS.icmpNo X8.here hx rfl (hb hby at_39) rfl (teq (by decide)).2 ?_
        exact k
      refine OFin.go S12 ?_
      have S13 : ∀ t, Steps p.tables e below (T8.setTop (mkF m 81 #[.val (.int u0), .val (.int u1), .val (.int (0 : Int32)), .val (.int (0 : Int32)), .val (.ref aC), .val (.ref aC), .val (.int (1 : Int32))] [(.ref aC), (.ref aC)])) t → Steps p.tables e below (T8.setTop (mkF m 42 #[.val (.int u0), .val (.int u1), .val (.int (0 : Int32)), .val (.int (0 : Int32)), .val (.ref aC), .val (.ref aC), .unset] [])) t := by
        intro t k
        show Steps p.tables e below (T8.setTop (mkF m 42 #[.val (.int u0), .val (.int u1), .val (.int (0 : Int32)), .val (.int (0 : Int32)), .val (.ref aC), .val (.ref aC), .unset] [])) t
        refine XS.iconst X8.here hx rfl (hb hby at_42) ?_
        show Steps p.tables e below (T8.setTop (mkF m 43 #[.val (.int u0), .val (.int u1), .val (.int (0 : Int32)), .val (.int (0 : Int32)), .val (.ref aC), .val (.ref aC), .unset] [(.int (1 : Int32))])) t
        refine XS.istore X8.here hx rfl (hb hby at_43) rfl (l' := #[.val (.int u0), .val (.int u1), .val (.int (0 : Int32)), .val (.int (0 : Int32)), .val (.ref aC), .val (.ref aC), .val (.int (1 : Int32))]) rfl ?_
        show Steps p.tables e below (T8.setTop (mkF m 45 #[.val (.int u0), .val (.int u1), .val (.int (0 : Int32)), .val (.int (0 : Int32)), .val (.ref aC), .val (.ref aC), .val (.int (1 : Int32))] [])) t
        refine XS.goto X8.here hx rfl (pc0 := 45) (pc' := 77) rfl (hb hby at_45) (by decide) (by decide) ?_
        show Steps p.tables e below (T8.setTop (mkF m 77 #[.val (.int u0), .val (.int u1), .val (.int (0 : Int32)), .val (.int (0 : Int32)), .val (.ref aC), .val (.ref aC), .val (.int (1 : Int32))] [])) t
        refine XS.aload X8.here hx rfl (hb hby at_77) rfl rfl ?_
        show Steps p.tables e below (T8.setTop (mkF m 79 #[.val (.int u0), .val (.int u1), .val (.int (0 : Int32)), .val (.int (0 : Int32)), .val (.ref aC), .val (.ref aC), .val (.int (1 : Int32))] [(.ref aC)])) t
        refine XS.aload X8.here hx rfl (hb hby at_79) rfl rfl ?_
        exact k
      refine OFin.go S13 ?_
      obtain ⟨_, T14, Lc14, X14, hQ14, st14⟩ := virtQ X8 hx hZ (y := (⟨"com/example/stowage/stowage/ip/Profile", "follows", "(Lcom/example/stowage/stowage/ip/Profile;)Z"⟩ : MethodName)) hown (hw _ (List.mem_of_getElem? (i := 10) rfl)) (hw _ (List.mem_of_getElem? (i := 12) rfl)) (hw _ (List.mem_of_getElem? (i := 6) rfl)) (hw _ (List.mem_of_getElem? (i := 14) rfl)) (hw _ (List.mem_of_getElem? (i := 11) rfl)) (hw _ (List.mem_of_getElem? (i := 13) rfl)) (by decide) EaC (argsL := [(.ref aC)]) (rest := []) (rm2_0_0 l Z a0 hw [] aC aS aT aA h0 n0 Z0 FaC FaS FaT FaA naCaS naCaT naCaA naSaT naSaA naTaA) (W := 0) (by decide) (by decide) e8 (g := (mkF m 81 #[.val (.int u0), .val (.int u1), .val (.int (0 : Int32)), .val (.int (0 : Int32)), .val (.ref aC), .val (.ref aC), .val (.int (1 : Int32))] [(.ref aC), (.ref aC)])) rfl (by rw [hml]; rfl) (lenOf pd_1 rfl) rfl (by show 2 * 0 + _ ≤ _; exact Nat.le_of_eq rfl) (hb hby at_81) (Nat.le_of_ble_eq_true rfl) (Nat.le_of_ble_eq_true rfl)
      obtain ⟨rfl, N14q, e14⟩ := hQ14
      have N14 := Fr.app N8 N14q
      refine OFin.go st14 ?_
      show OFin p e below _ (T14.setTop (mkF m 84 #[.val (.int u0), .val (.int u1), .val (.int (0 : Int32)), .val (.int (0 : Int32)), .val (.ref aC), .val (.ref aC), .val (.int (1 : Int32))] [(.int (1 : Int32))]))
      have S15 : ∀ t, Steps p.tables e below (T14.setTop (mkF m 86 #[.val (.int u0), .val (.int u1), .val (.int (0 : Int32)), .val (.int (0 : Int32)), .val (.ref aC), .val (.ref aC), .val (.int (1 : Int32))] [(.int (1 : Int32)), (.int (1 : Int32))])) t → Steps p.tables e below (T14.setTop (mkF m 84 #[.val (.int u0), .val (.int u1), .val (.int (0 : Int32)), .val (.int (0 : Int32)), .val (.ref aC), .val (.ref aC), .val (.int (1 : Int32))] [(.int (1 : Int32))])) t := by
        intro t k
        show Steps p.tables e below (T14.setTop (mkF m 84 #[.val (.int u0), .val (.int u1), .val (.int (0 : Int32)), .val (.int (0 : Int32)), .val (.ref aC), .val (.ref aC), .val (.int (1 : Int32))] [(.int (1 : Int32))])) t
        refine XS.iload X14.here hx rfl (hb hby at_84) rfl ?_
        exact k
      refine OFin.go S15 ?_
      have S16 : ∀ t, Steps p.tables e below (T14.setTop (mkF m 89 #[.val (.int u0), .val (.int u1), .val (.int (0 : Int32)), .val (.int (0 : Int32)), .val (.ref aC), .val (.ref aC), .val (.int (1 : Int32))] [])) t → Steps p.tables e below (T14.setTop (mkF m 86 #[.val (.int u0), .val (.int u1), .val (.int (0 : Int32)), .val (.int (0 : Int32)), .val (.ref aC), .val (.ref aC), .val (.int (1 : Int32))] [(.int (1 : Int32)), (.int (1 : Int32))])) t := by
        intro t k
        show Steps p.tables e below (T14.setTop (mkF m 86 #[.val (.int u0), .val (.int u1), .val (.int (0 : Int32)), .val (.int (0 : Int32)), .val (.ref aC), .val (.ref aC), .val (.int (1 : Int32))] [(.int (1 : Int32)), (.int (1 : Int32))])) t
        refine XS.icmpNo X14.here hx rfl (hb hby at_86) rfl (teq (by decide)).2 ?_
        exact k
      refine OFin.go S16 ?_
      have S17 : ∀ t, Steps p.tables e below (T14.setTop (mkF m 94 #[.val (.int u0), .val (.int u1), .val (.int (0 : Int32)), .val (.int (0 : Int32)), .val (.ref aC), .val (.ref aC), .val (.int (1 : Int32))] [(.int (1 : Int32))])) t → Steps p.tables e below (T14.setTop (mkF m 89 #[.val (.int u0), .val (.int u1), .val (.int (0 : Int32)), .val (.int (0 : Int32)), .val (.ref aC), .val (.ref aC), .val (.int (1 : Int32))] [])) t := by
        intro t k
        show Steps p.tables e below (T14.setTop (mkF m 89 #[.val (.int u0), .val (.int u1), .val (.int (0 : Int32)), .val (.int (0 : Int32)), .val (.ref aC), .val (.ref aC), .val (.int (1 : Int32))] [])) t
        refine XS.iconst X14.here hx rfl (hb hby at_89) ?_
        show Steps p.tables e below (T14.setTop (mkF m 90 #[.val (.int u0), .val (.int u1), .val (.int (0 : Int32)), .val (.int (0 : Int32)), .val (.ref aC), .val (.ref aC), .val (.int (1 : Int32))] [(.int (1 : Int32))])) t
        refine XS.goto X14.here hx rfl (pc0 := 90) (pc' := 94) rfl (hb hby at_90) (by decide) (by decide) ?_
        exact k
      refine OFin.go S17 ?_
      exact finZ X14 hx Bd.notSynchronized (t := .boolean) Bd.returns (by simp) (hb hby at_94) rfl (by decide) (by decide) (⟨congrArg (fun z => some (Value.int z)) (rfl : (1 : Int32) = (1 : Int32)), N14⟩)
    ·
      subst hkk4'
      show OFin p e below _ (s₁.setTop (mkF m 14 #[.val (.int u0), .val (.int u1), .val (.int (0 : Int32)), .val (.int (1 : Int32)), .unset, .unset, .unset] []))
      have S18 : ∀ t, Steps p.tables e below (s₁.setTop (mkF m 15 #[.val (.int u0), .val (.int u1), .val (.int (0 : Int32)), .val (.int (1 : Int32)), .unset, .unset, .unset] [(.int (0 : Int32))])) t → Steps p.tables e below (s₁.setTop (mkF m 14 #[.val (.int u0), .val (.int u1), .val (.int (0 : Int32)), .val (.int (1 : Int32)), .unset, .unset, .unset] [])) t := by
        intro t k
        show Steps p.tables e below (s₁.setTop (mkF m 14 #[.val (.int u0), .val (.int u1), .val (.int (0 : Int32)), .val (.int (1 : Int32)), .unset, .unset, .unset] [])) t
        refine XS.iloadN X0.here hx rfl (hb hby at_14) rfl ?_
        exact k
      refine OFin.go S18 ?_
      obtain ⟨_, T19, Lc19, X19, hQ19, st19⟩ := callQ X0 hx hZ (y := (⟨"com/example/stowage/stowage/ip/ProfileFollowsPinLaw", "pick", "(I)Lcom/example/stowage/stowage/ip/Profile;"⟩ : MethodName)) hown (hw _ (List.mem_of_getElem? (i := 1) rfl)) (hw _ (List.mem_of_getElem? (i := 2) rfl)) (hw _ (List.mem_of_getElem? (i := 3) rfl)) (hw _ (List.mem_of_getElem? (i := 4) rfl)) (by decide) (argsL := [(.int (0 : Int32))]) (rest := []) (rm1 l Z a0 hw [] (0 : Int32) aC aS aT aA h0 n0 Z0 SaC SaS SaT SaA) (W := 0) (by decide) (by decide) e0 (g := (mkF m 15 #[.val (.int u0), .val (.int u1), .val (.int (0 : Int32)), .val (.int (1 : Int32)), .unset, .unset, .unset] [(.int (0 : Int32))])) rfl (by rw [hml]; rfl) (lenOf pd_0 rfl) rfl (by show 2 * 0 + _ ≤ _; exact Nat.le_of_eq rfl) (hb hby at_15) (Nat.le_of_ble_eq_true rfl) (Nat.le_of_ble_eq_true rfl)
      obtain ⟨rfl, N19q, e19⟩ := hQ19
      have N19 := Fr.app N0 N19q
      refine OFin.go st19 ?_
      show OFin p e below _ (T19.setTop (mkF m 18 #[.val (.int u0), .val (.int u1), .val (.int (0 : Int32)), .val (.int (1 : Int32)), .unset, .unset, .unset] [(.ref aC)]))
      have S20 : ∀ t, Steps p.tables e below (T19.setTop (mkF m 21 #[.val (.int u0), .val (.int u1), .val (.int (0 : Int32)), .val (.int (1 : Int32)), .val (.ref aC), .unset, .unset] [(.int (1 : Int32))])) t → Steps p.tables e below (T19.setTop (mkF m 18 #[.val (.int u0), .val (.int u1), .val (.int (0 : Int32)), .val (.int (1 : Int32)), .unset, .unset, .unset] [(.ref aC)])) t := by
        intro t k
        show Steps p.tables e below (T19.setTop (mkF m 18 #[.val (.int u0), .val (.int u1), .val (.int (0 : Int32)), .val (.int (1 : Int32)), .unset, .unset, .unset] [(.ref aC)])) t
        refine XS.astore X19.here hx rfl (hb hby at_18) rfl rfl (l' := #[.val (.int u0), .val (.int u1), .val (.int (0 : Int32)), .val (.int (1 : Int32)), .val (.ref aC), .unset, .unset]) rfl ?_
        show Steps p.tables e below (T19.setTop (mkF m 20 #[.val (.int u0), .val (.int u1), .val (.int (0 : Int32)), .val (.int (1 : Int32)), .val (.ref aC), .unset, .unset] [])) t
        refine XS.iloadN X19.here hx rfl (hb hby at_20) rfl ?_
        exact k
      refine OFin.go S20 ?_
      obtain ⟨_, T21, Lc21, X21, hQ21, st21⟩ := callQ X19 hx hZ (y := (⟨"com/example/stowage/stowage/ip/ProfileFollowsPinLaw", "pick", "(I)Lcom/example/stowage/stowage/ip/Profile;"⟩ : MethodName)) hown (hw _ (List.mem_of_getElem? (i := 1) rfl)) (hw _ (List.mem_of_getElem? (i := 2) rfl)) (hw _ (List.mem_of_getElem? (i := 3) rfl)) (hw _ (List.mem_of_getElem? (i := 4) rfl)) (by decide) (argsL := [(.int (1 : Int32))]) (rest := []) (rm1 l Z a0 hw [] (1 : Int32) aC aS aT aA h0 n0 Z0 SaC SaS SaT SaA) (W := 0) (by decide) (by decide) e19 (g := (mkF m 21 #[.val (.int u0), .val (.int u1), .val (.int (0 : Int32)), .val (.int (1 : Int32)), .val (.ref aC), .unset, .unset] [(.int (1 : Int32))])) rfl (by rw [hml]; rfl) (lenOf pd_0 rfl) rfl (by show 2 * 0 + _ ≤ _; exact Nat.le_of_eq rfl) (hb hby at_21) (Nat.le_of_ble_eq_true rfl) (Nat.le_of_ble_eq_true rfl)
      obtain ⟨rfl, N21q, e21⟩ := hQ21
      have N21 := Fr.app N19 N21q
      refine OFin.go st21 ?_
      show OFin p e below _ (T21.setTop (mkF m 24 #[.val (.int u0), .val (.int u1), .val (.int (0 : Int32)), .val (.int (1 : Int32)), .val (.ref aC), .unset, .unset] [(.ref aS)]))
      have S22 : ∀ t, Steps p.tables e below (T21.setTop (mkF m 28 #[.val (.int u0), .val (.int u1), .val (.int (0 : Int32)), .val (.int (1 : Int32)), .val (.ref aC), .val (.ref aS), .unset] [(.int (4 : Int32)), (.int (1 : Int32))])) t → Steps p.tables e below (T21.setTop (mkF m 24 #[.val (.int u0), .val (.int u1), .val (.int (0 : Int32)), .val (.int (1 : Int32)), .val (.ref aC), .unset, .unset] [(.ref aS)])) t := by
        intro t k
        show Steps p.tables e below (T21.setTop (mkF m 24 #[.val (.int u0), .val (.int u1), .val (.int (0 : Int32)), .val (.int (1 : Int32)), .val (.ref aC), .unset, .unset] [(.ref aS)])) t
        refine XS.astore X21.here hx rfl (hb hby at_24) rfl rfl (l' := #[.val (.int u0), .val (.int u1), .val (.int (0 : Int32)), .val (.int (1 : Int32)), .val (.ref aC), .val (.ref aS), .unset]) rfl ?_
        show Steps p.tables e below (T21.setTop (mkF m 26 #[.val (.int u0), .val (.int u1), .val (.int (0 : Int32)), .val (.int (1 : Int32)), .val (.ref aC), .val (.ref aS), .unset] [])) t
        refine XS.iloadN X21.here hx rfl (hb hby at_26) rfl ?_
        show Steps p.tables e below (T21.setTop (mkF m 27 #[.val (.int u0), .val (.int u1), .val (.int (0 : Int32)), .val (.int (1 : Int32)), .val (.ref aC), .val (.ref aS), .unset] [(.int (1 : Int32))])) t
        refine XS.iconst X21.here hx rfl (hb hby at_27) ?_
        exact k
      refine OFin.go S22 ?_
      have S23 : ∀ t, Steps p.tables e below (T21.setTop (mkF m 37 #[.val (.int u0), .val (.int u1), .val (.int (0 : Int32)), .val (.int (1 : Int32)), .val (.ref aC), .val (.ref aS), .unset] [])) t → Steps p.tables e below (T21.setTop (mkF m 28 #[.val (.int u0), .val (.int u1), .val (.int (0 : Int32)), .val (.int (1 : Int32)), .val (.ref aC), .val (.ref aS), .unset] [(.int (4 : Int32)), (.int (1 : Int32))])) t := by
        intro t k
        show Steps p.tables e below (T21.setTop (mkF m 28 #[.val (.int u0), .val (.int u1), .val (.int (0 : Int32)), .val (.int (1 : Int32)), .val (.ref aC), .val (.ref aS), .unset] [(.int (4 : Int32)), (.int (1 : Int32))])) t
        refine XS.icmpYes X21.here hx rfl (pc0 := 28) (pc' := 37) rfl (hb hby at_28) rfl (feq (by decide)).2 (by decide) (by decide) ?_
        exact k
      refine OFin.go S23 ?_
      have S24 : ∀ t, Steps p.tables e below (T21.setTop (mkF m 39 #[.val (.int u0), .val (.int u1), .val (.int (0 : Int32)), .val (.int (1 : Int32)), .val (.ref aC), .val (.ref aS), .unset] [(.int (1 : Int32)), (.int (0 : Int32))])) t → Steps p.tables e below (T21.setTop (mkF m 37 #[.val (.int u0), .val (.int u1), .val (.int (0 : Int32)), .val (.int (1 : Int32)), .val (.ref aC), .val (.ref aS), .unset] [])) t := by
        intro t k
        show Steps p.tables e below (T21.setTop (mkF m 37 #[.val (.int u0), .val (.int u1), .val (.int (0 : Int32)), .val (.int (1 : Int32)), .val (.ref aC), .val (.ref aS), .unset] [])) t
        refine XS.iloadN X21.here hx rfl (hb hby at_37) rfl ?_
        show Steps p.tables e below (T21.setTop (mkF m 38 #[.val (.int u0), .val (.int u1), .val (.int (0 : Int32)), .val (.int (1 : Int32)), .val (.ref aC), .val (.ref aS), .unset] [(.int (0 : Int32))])) t
        refine XS.iloadN X21.here hx rfl (hb hby at_38) rfl ?_
        exact k
      refine OFin.go S24 ?_
      have S25 : ∀ t, Steps p.tables e below (T21.setTop (mkF m 48 #[.val (.int u0), .val (.int u1), .val (.int (0 : Int32)), .val (.int (1 : Int32)), .val (.ref aC), .val (.ref aS), .unset] [])) t → Steps p.tables e below (T21.setTop (mkF m 39 #[.val (.int u0), .val (.int u1), .val (.int (0 : Int32)), .val (.int (1 : Int32)), .val (.ref aC), .val (.ref aS), .unset] [(.int (1 : Int32)), (.int (0 : Int32))])) t := by
        intro t k
        show Steps p.tables e below (T21.setTop (mkF m 39 #[.val (.int u0), .val (.int u1), .val (.int (0 : Int32)), .val (.int (1 : Int32)), .val (.ref aC), .val (.ref aS), .unset] [(.int (1 : Int32)), (.int (0 : Int32))])) t
        refine XS.icmpYes X21.here hx rfl (pc0 := 39) (pc' := 48) rfl (hb hby at_39) rfl (feq (by decide)).2 (by decide) (by decide) ?_
        exact k
      refine OFin.go S25 ?_
      have S26 : ∀ t, Steps p.tables e below (T21.setTop (mkF m 49 #[.val (.int u0), .val (.int u1), .val (.int (0 : Int32)), .val (.int (1 : Int32)), .val (.ref aC), .val (.ref aS), .unset] [(.int (1 : Int32))])) t → Steps p.tables e below (T21.setTop (mkF m 48 #[.val (.int u0), .val (.int u1), .val (.int (0 : Int32)), .val (.int (1 : Int32)), .val (.ref aC), .val (.ref aS), .unset] [])) t := by
        intro t k
        show Steps p.tables e below (T21.setTop (mkF m 48 #[.val (.int u0), .val (.int u1), .val (.int (0 : Int32)), .val (.int (1 : Int32)), .val (.ref aC), .val (.ref aS), .unset] [])) t
        refine XS.iloadN X21.here hx rfl (hb hby at_48) rfl ?_
        exact k
      refine OFin.go S26 ?_
      have S27 : ∀ t, Steps p.tables e below (T21.setTop (mkF m 58 #[.val (.int u0), .val (.int u1), .val (.int (0 : Int32)), .val (.int (1 : Int32)), .val (.ref aC), .val (.ref aS), .unset] [])) t → Steps p.tables e below (T21.setTop (mkF m 49 #[.val (.int u0), .val (.int u1), .val (.int (0 : Int32)), .val (.int (1 : Int32)), .val (.ref aC), .val (.ref aS), .unset] [(.int (1 : Int32))])) t := by
        intro t k
        show Steps p.tables e below (T21.setTop (mkF m 49 #[.val (.int u0), .val (.int u1), .val (.int (0 : Int32)), .val (.int (1 : Int32)), .val (.ref aC), .val (.ref aS), .unset] [(.int (1 : Int32))])) t
        refine XS.ifYes X21.here hx rfl (pc0 := 49) (pc' := 58) rfl (hb hby at_49) rfl ((if0 _ _).trans (feq (by decide)).2) (by decide) (by decide) ?_
        exact k
      refine OFin.go S27 ?_
      have S28 : ∀ t, Steps p.tables e below (T21.setTop (mkF m 60 #[.val (.int u0), .val (.int u1), .val (.int (0 : Int32)), .val (.int (1 : Int32)), .val (.ref aC), .val (.ref aS), .unset] [(.int (2 : Int32)), (.int (0 : Int32))])) t → Steps p.tables e below (T21.setTop (mkF m 58 #[.val (.int u0), .val (.int u1), .val (.int (0 : Int32)), .val (.int (1 : Int32)), .val (.ref aC), .val (.ref aS), .unset] [])) t := by
        intro t k
        show Steps p.tables e below (T21.setTop (mkF m 58 #[.val (.int u0), .val (.int u1), .val (.int (0 : Int32)), .val (.int (1 : Int32)), .val (.ref aC), .val (.ref aS), .unset] [])) t
        refine XS.iloadN X21.here hx rfl (hb hby at_58) rfl ?_
        show Steps p.tables e below (T21.setTop (mkF m 59 #[.val (.int u0), .val (.int u1), .val (.int (0 : Int32)), .val (.int (1 : Int32)), .val (.ref aC), .val (.ref aS), .unset] [(.int (0 : Int32))])) t
        refine XS.iconst X21.here hx rfl (hb hby at_59) ?_
        exact k
      refine OFin.go S28 ?_
      have S29 : ∀ t, Steps p.tables e below (T21.setTop (mkF m 74 #[.val (.int u0), .val (.int u1), .val (.int (0 : Int32)), .val (.int (1 : Int32)), .val (.ref aC), .val (.ref aS), .unset] [])) t → Steps p.tables e below (T21.setTop (mkF m 60 #[.val (.int u0), .val (.int u1), .val (.int (0 : Int32)), .val (.int (1 : Int32)), .val (.ref aC), .val (.ref aS), .unset] [(.int (2 : Int32)), (.int (0 : Int32))])) t := by
        intro t k
        show Steps p.tables e below (T21.setTop (mkF m 60 #[.val (.int u0), .val (.int u1), .val (.int (0 : Int32)), .val (.int (1 : Int32)), .val (.ref aC), .val (.ref aS), .unset] [(.int (2 : Int32)), (.int (0 : Int32))])) t
        refine XS.icmpYes X21.here hx rfl (pc0 := 60) (pc' := 74) rfl (hb hby at_60) rfl (feq (by decide)).2 (by decide) (by decide) ?_
        exact k
      refine OFin.go S29 ?_
      have S30 : ∀ t, Steps p.tables e below (T21.setTop (mkF m 81 #[.val (.int u0), .val (.int u1), .val (.int (0 : Int32)), .val (.int (1 : Int32)), .val (.ref aC), .val (.ref aS), .val (.int (0 : Int32))] [(.ref aS), (.ref aC)])) t → Steps p.tables e below (T21.setTop (mkF m 74 #[.val (.int u0), .val (.int u1), .val (.int (0 : Int32)), .val (.int (1 : Int32)), .val (.ref aC), .val (.ref aS), .unset] [])) t := by
        intro t k
        show Steps p.tables e below (T21.setTop (mkF m 74 #[.val (.int u0), .val (.int u1), .val (.int (0 : Int32)), .val (.int (1 : Int32)), .val (.ref aC), .val (.ref aS), .unset] [])) t
        refine XS.iconst X21.here hx rfl (hb hby at_74) ?_
        show Steps p.tables e below (T21.setTop (mkF m 75 #[.val (.int u0), .val (.int u1), .val (.int (0 : Int32)), .val (.int (1 : Int32)), .val (.ref aC), .val (.ref aS), .unset] [(.int (0 : Int32))])) t
        refine XS.istore X21.here hx rfl (hb hby at_75) rfl (l' := #[.val (.int u0), .val (.int u1), .val (.int (0 : Int32)), .val (.int (1 : Int32)), .val (.ref aC), .val (.ref aS), .val (.int (0 : Int32))]) rfl ?_
        show Steps p.tables e below (T21.setTop (mkF m 77 #[.val (.int u0), .val (.int u1), .val (.int (0 : Int32)), .val (.int (1 : Int32)), .val (.ref aC), .val (.ref aS), .val (.int (0 : Int32))] [])) t
        refine XS.aload X21.here hx rfl (hb hby at_77) rfl rfl ?_
        show Steps p.tables e below (T21.setTop (mkF m 79 #[.val (.int u0), .val (.int u1), .val (.int (0 : Int32)), .val (.int (1 : Int32)), .val (.ref aC), .val (.ref aS), .val (.int (0 : Int32))] [(.ref aC)])) t
        refine XS.aload X21.here hx rfl (hb hby at_79) rfl rfl ?_
        exact k
      refine OFin.go S30 ?_
      obtain ⟨_, T31, Lc31, X31, hQ31, st31⟩ := virtQ X21 hx hZ (y := (⟨"com/example/stowage/stowage/ip/Profile", "follows", "(Lcom/example/stowage/stowage/ip/Profile;)Z"⟩ : MethodName)) hown (hw _ (List.mem_of_getElem? (i := 10) rfl)) (hw _ (List.mem_of_getElem? (i := 12) rfl)) (hw _ (List.mem_of_getElem? (i := 6) rfl)) (hw _ (List.mem_of_getElem? (i := 14) rfl)) (hw _ (List.mem_of_getElem? (i := 11) rfl)) (hw _ (List.mem_of_getElem? (i := 13) rfl)) (by decide) EaC (argsL := [(.ref aS)]) (rest := []) (rm2_0_1 l Z a0 hw [] aC aS aT aA h0 n0 Z0 FaC FaS FaT FaA naCaS naCaT naCaA naSaT naSaA naTaA) (W := 0) (by decide) (by decide) e21 (g := (mkF m 81 #[.val (.int u0), .val (.int u1), .val (.int (0 : Int32)), .val (.int (1 : Int32)), .val (.ref aC), .val (.ref aS), .val (.int (0 : Int32))] [(.ref aS), (.ref aC)])) rfl (by rw [hml]; rfl) (lenOf pd_1 rfl) rfl (by show 2 * 0 + _ ≤ _; exact Nat.le_of_eq rfl) (hb hby at_81) (Nat.le_of_ble_eq_true rfl) (Nat.le_of_ble_eq_true rfl)
      obtain ⟨rfl, N31q, e31⟩ := hQ31
      have N31 := Fr.app N21 N31q
      refine OFin.go st31 ?_
      show OFin p e below _ (T31.setTop (mkF m 84 #[.val (.int u0), .val (.int u1), .val (.int (0 : Int32)), .val (.int (1 : Int32)), .val (.ref aC), .val (.ref aS), .val (.int (0 : Int32))] [(.int (0 : Int32))]))
      have S32 : ∀ t, Steps p.tables e below (T31.setTop (mkF m 86 #[.val (.int u0), .val (.int u1), .val (.int (0 : Int32)), .val (.int (1 : Int32)), .val (.ref aC), .val (.ref aS), .val (.int (0 : Int32))] [(.int (0 : Int32)), (.int (0 : Int32))])) t → Steps p.tables e below (T31.setTop (mkF m 84 #[.val (.int u0), .val (.int u1), .val (.int (0 : Int32)), .val (.int (1 : Int32)), .val (.ref aC), .val (.ref aS), .val (.int (0 : Int32))] [(.int (0 : Int32))])) t := by
        intro t k
        show Steps p.tables e below (T31.setTop (mkF m 84 #[.val (.int u0), .val (.int u1), .val (.int (0 : Int32)), .val (.int (1 : Int32)), .val (.ref aC), .val (.ref aS), .val (.int (0 : Int32))] [(.int (0 : Int32))])) t
        refine XS.iload X31.here hx rfl (hb hby at_84) rfl ?_
        exact k
      refine OFin.go S32 ?_
      have S33 : ∀ t, Steps p.tables e below (T31.setTop (mkF m 89 #[.val (.int u0), .val (.int u1), .val (.int (0 : Int32)), .val (.int (1 : Int32)), .val (.ref aC), .val (.ref aS), .val (.int (0 : Int32))] [])) t → Steps p.tables e below (T31.setTop (mkF m 86 #[.val (.int u0), .val (.int u1), .val (.int (0 : Int32)), .val (.int (1 : Int32)), .val (.ref aC), .val (.ref aS), .val (.int (0 : Int32))] [(.int (0 : Int32)), (.int (0 : Int32))])) t := by
        intro t k
        show Steps p.tables e below (T31.setTop (mkF m 86 #[.val (.int u0), .val (.int u1), .val (.int (0 : Int32)), .val (.int (1 : Int32)), .val (.ref aC), .val (.ref aS), .val (.int (0 : Int32))] [(.int (0 : Int32)), (.int (0 : Int32))])) t
        refine XS.icmpNo X31.here hx rfl (hb hby at_86) rfl (teq (by decide)).2 ?_
        exact k
      refine OFin.go S33 ?_
      have S34 : ∀ t, Steps p.tables e below (T31.setTop (mkF m 94 #[.val (.int u0), .val (.int u1), .val (.int (0 : Int32)), .val (.int (1 : Int32)), .val (.ref aC), .val (.ref aS), .val (.int (0 : Int32))] [(.int (1 : Int32))])) t → Steps p.tables e below (T31.setTop (mkF m 89 #[.val (.int u0), .val (.int u1), .val (.int (0 : Int32)), .val (.int (1 : Int32)), .val (.ref aC), .val (.ref aS), .val (.int (0 : Int32))] [])) t := by
        intro t k
        show Steps p.tables e below (T31.setTop (mkF m 89 #[.val (.int u0), .val (.int u1), .val (.int (0 : Int32)), .val (.int (1 : Int32)), .val (.ref aC), .val (.ref aS), .val (.int (0 : Int32))] [])) t
        refine XS.iconst X31.here hx rfl (hb hby at_89) ?_
        show Steps p.tables e below (T31.setTop (mkF m 90 #[.val (.int u0), .val (.int u1), .val (.int (0 : Int32)), .val (.int (1 : Int32)), .val (.ref aC), .val (.ref aS), .val (.int (0 : Int32))] [(.int (1 : Int32))])) t
        refine XS.goto X31.here hx rfl (pc0 := 90) (pc' := 94) rfl (hb hby at_90) (by decide) (by decide) ?_
        exact k
      refine OFin.go S34 ?_
      exact finZ X31 hx Bd.notSynchronized (t := .boolean) Bd.returns (by simp) (hb hby at_94) rfl (by decide) (by decide) (⟨congrArg (fun z => some (Value.int z)) (rfl : (1 : Int32) = (1 : Int32)), N31⟩)
    ·
      subst hkk4'
      show OFin p e below _ (s₁.setTop (mkF m 14 #[.val (.int u0), .val (.int u1), .val (.int (0 : Int32)), .val (.int (2 : Int32)), .unset, .unset, .unset] []))
      have S35 : ∀ t, Steps p.tables e below (s₁.setTop (mkF m 15 #[.val (.int u0), .val (.int u1), .val (.int (0 : Int32)), .val (.int (2 : Int32)), .unset, .unset, .unset] [(.int (0 : Int32))])) t → Steps p.tables e below (s₁.setTop (mkF m 14 #[.val (.int u0), .val (.int u1), .val (.int (0 : Int32)), .val (.int (2 : Int32)), .unset, .unset, .unset] [])) t := by
        intro t k
        show Steps p.tables e below (s₁.setTop (mkF m 14 #[.val (.int u0), .val (.int u1), .val (.int (0 : Int32)), .val (.int (2 : Int32)), .unset, .unset, .unset] [])) t
        refine XS.iloadN X0.here hx rfl (hb hby at_14) rfl ?_
        exact k
      refine OFin.go S35 ?_
      obtain ⟨_, T36, Lc36, X36, hQ36, st36⟩ := callQ X0 hx hZ (y := (⟨"com/example/stowage/stowage/ip/ProfileFollowsPinLaw", "pick", "(I)Lcom/example/stowage/stowage/ip/Profile;"⟩ : MethodName)) hown (hw _ (List.mem_of_getElem? (i := 1) rfl)) (hw _ (List.mem_of_getElem? (i := 2) rfl)) (hw _ (List.mem_of_getElem? (i := 3) rfl)) (hw _ (List.mem_of_getElem? (i := 4) rfl)) (by decide) (argsL := [(.int (0 : Int32))]) (rest := []) (rm1 l Z a0 hw [] (0 : Int32) aC aS aT aA h0 n0 Z0 SaC SaS SaT SaA) (W := 0) (by decide) (by decide) e0 (g := (mkF m 15 #[.val (.int u0), .val (.int u1), .val (.int (0 : Int32)), .val (.int (2 : Int32)), .unset, .unset, .unset] [(.int (0 : Int32))])) rfl (by rw [hml]; rfl) (lenOf pd_0 rfl) rfl (by show 2 * 0 + _ ≤ _; exact Nat.le_of_eq rfl) (hb hby at_15) (Nat.le_of_ble_eq_true rfl) (Nat.le_of_ble_eq_true rfl)
      obtain ⟨rfl, N36q, e36⟩ := hQ36
      have N36 := Fr.app N0 N36q
      refine OFin.go st36 ?_
      show OFin p e below _ (T36.setTop (mkF m 18 #[.val (.int u0), .val (.int u1), .val (.int (0 : Int32)), .val (.int (2 : Int32)), .unset, .unset, .unset] [(.ref aC)]))
      have S37 : ∀ t, Steps p.tables e below (T36.setTop (mkF m 21 #[.val (.int u0), .val (.int u1), .val (.int (0 : Int32)), .val (.int (2 : Int32)), .val (.ref aC), .unset, .unset] [(.int (2 : Int32))])) t → Steps p.tables e below (T36.setTop (mkF m 18 #[.val (.int u0), .val (.int u1), .val (.int (0 : Int32)), .val (.int (2 : Int32)), .unset, .unset, .unset] [(.ref aC)])) t := by
        intro t k
        show Steps p.tables e below (T36.setTop (mkF m 18 #[.val (.int u0), .val (.int u1), .val (.int (0 : Int32)), .val (.int (2 : Int32)), .unset, .unset, .unset] [(.ref aC)])) t
        refine XS.astore X36.here hx rfl (hb hby at_18) rfl rfl (l' := #[.val (.int u0), .val (.int u1), .val (.int (0 : Int32)), .val (.int (2 : Int32)), .val (.ref aC), .unset, .unset]) rfl ?_
        show Steps p.tables e below (T36.setTop (mkF m 20 #[.val (.int u0), .val (.int u1), .val (.int (0 : Int32)), .val (.int (2 : Int32)), .val (.ref aC), .unset, .unset] [])) t
        refine XS.iloadN X36.here hx rfl (hb hby at_20) rfl ?_
        exact k
      refine OFin.go S37 ?_
      obtain ⟨_, T38, Lc38, X38, hQ38, st38⟩ := callQ X36 hx hZ (y := (⟨"com/example/stowage/stowage/ip/ProfileFollowsPinLaw", "pick", "(I)Lcom/example/stowage/stowage/ip/Profile;"⟩ : MethodName)) hown (hw _ (List.mem_of_getElem? (i := 1) rfl)) (hw _ (List.mem_of_getElem? (i := 2) rfl)) (hw _ (List.mem_of_getElem? (i := 3) rfl)) (hw _ (List.mem_of_getElem? (i := 4) rfl)) (by decide) (argsL := [(.int (2 : Int32))]) (rest := []) (rm1 l Z a0 hw [] (2 : Int32) aC aS aT aA h0 n0 Z0 SaC SaS SaT SaA) (W := 0) (by decide) (by decide) e36 (g := (mkF m 21 #[.val (.int u0), .val (.int u1), .val (.int (0 : Int32)), .val (.int (2 : Int32)), .val (.ref aC), .unset, .unset] [(.int (2 : Int32))])) rfl (by rw [hml]; rfl) (lenOf pd_0 rfl) rfl (by show 2 * 0 + _ ≤ _; exact Nat.le_of_eq rfl) (hb hby at_21) (Nat.le_of_ble_eq_true rfl) (Nat.le_of_ble_eq_true rfl)
      obtain ⟨rfl, N38q, e38⟩ := hQ38
      have N38 := Fr.app N36 N38q
      refine OFin.go st38 ?_
      show OFin p e below _ (T38.setTop (mkF m 24 #[.val (.int u0), .val (.int u1), .val (.int (0 : Int32)), .val (.int (2 : Int32)), .val (.ref aC), .unset, .unset] [(.ref aT)]))
      have S39 : ∀ t, Steps p.tables e below (T38.setTop (mkF m 28 #[.val (.int u0), .val (.int u1), .val (.int (0 : Int32)), .val (.int (2 : Int32)), .val (.ref aC), .val (.ref aT), .unset] [(.int (4 : Int32)), (.int (2 : Int32))])) t → Steps p.tables e below (T38.setTop (mkF m 24 #[.val (.int u0), .val (.int u1), .val (.int (0 : Int32)), .val (.int (2 : Int32)), .val (.ref aC), .unset, .unset] [(.ref aT)])) t := by
        intro t k
        show Steps p.tables e below (T38.setTop (mkF m 24 #[.val (.int u0), .val (.int u1), .val (.int (0 : Int32)), .val (.int (2 : Int32)), .val (.ref aC), .unset, .unset] [(.ref aT)])) t
        refine XS.astore X38.here hx rfl (hb hby at_24) rfl rfl (l' := #[.val (.int u0), .val (.int u1), .val (.int (0 : Int32)), .val (.int (2 : Int32)), .val (.ref aC), .val (.ref aT), .unset]) rfl ?_
        show Steps p.tables e below (T38.setTop (mkF m 26 #[.val (.int u0), .val (.int u1), .val (.int (0 : Int32)), .val (.int (2 : Int32)), .val (.ref aC), .val (.ref aT), .unset] [])) t
        refine XS.iloadN X38.here hx rfl (hb hby at_26) rfl ?_
        show Steps p.tables e below (T38.setTop (mkF m 27 #[.val (.int u0), .val (.int u1), .val (.int (0 : Int32)), .val (.int (2 : Int32)), .val (.ref aC), .val (.ref aT), .unset] [(.int (2 : Int32))])) t
        refine XS.iconst X38.here hx rfl (hb hby at_27) ?_
        exact k
      refine OFin.go S39 ?_
      have S40 : ∀ t, Steps p.tables e below (T38.setTop (mkF m 37 #[.val (.int u0), .val (.int u1), .val (.int (0 : Int32)), .val (.int (2 : Int32)), .val (.ref aC), .val (.ref aT), .unset] [])) t → Steps p.tables e below (T38.setTop (mkF m 28 #[.val (.int u0), .val (.int u1), .val (.int (0 : Int32)), .val (.int (2 : Int32)), .val (.ref aC), .val (.ref aT), .unset] [(.int (4 : Int32)), (.int (2 : Int32))])) t := by
        intro t k
        show Steps p.tables e below (T38.setTop (mkF m 28 #[.val (.int u0), .val (.int u1), .val (.int (0 : Int32)), .val (.int (2 : Int32)), .val (.ref aC), .val (.ref aT), .unset] [(.int (4 : Int32)), (.int (2 : Int32))])) t
        refine XS.icmpYes X38.here hx rfl (pc0 := 28) (pc' := 37) rfl (hb hby at_28) rfl (feq (by decide)).2 (by decide) (by decide) ?_
        exact k
      refine OFin.go S40 ?_
      have S41 : ∀ t, Steps p.tables e below (T38.setTop (mkF m 39 #[.val (.int u0), .val (.int u1), .val (.int (0 : Int32)), .val (.int (2 : Int32)), .val (.ref aC), .val (.ref aT), .unset] [(.int (2 : Int32)), (.int (0 : Int32))])) t → Steps p.tables e below (T38.setTop (mkF m 37 #[.val (.int u0), .val (.int u1), .val (.int (0 : Int32)), .val (.int (2 : Int32)), .val (.ref aC), .val (.ref aT), .unset] [])) t := by
        intro t k
        show Steps p.tables e below (T38.setTop (mkF m 37 #[.val (.int u0), .val (.int u1), .val (.int (0 : Int32)), .val (.int (2 : Int32)), .val (.ref aC), .val (.ref aT), .unset] [])) t
        refine XS.iloadN X38.here hx rfl (hb hby at_37) rfl ?_
        show Steps p.tables e below (T38.setTop (mkF m 38 #[.val (.int u0), .val (.int u1), .val (.int (0 : Int32)), .val (.int (2 : Int32)), .val (.ref aC), .val (.ref aT), .unset] [(.int (0 : Int32))])) t
        refine XS.iloadN X38.here hx rfl (hb hby at_38) rfl ?_
        exact k
      refine OFin.go S41 ?_
      have S42 : ∀ t, Steps p.tables e below (T38.setTop (mkF m 48 #[.val (.int u0), .val (.int u1), .val (.int (0 : Int32)), .val (.int (2 : Int32)), .val (.ref aC), .val (.ref aT), .unset] [])) t → Steps p.tables e below (T38.setTop (mkF m 39 #[.val (.int u0), .val (.int u1), .val (.int (0 : Int32)), .val (.int (2 : Int32)), .val (.ref aC), .val (.ref aT), .unset] [(.int (2 : Int32)), (.int (0 : Int32))])) t := by
        intro t k
        show Steps p.tables e below (T38.setTop (mkF m 39 #[.val (.int u0), .val (.int u1), .val (.int (0 : Int32)), .val (.int (2 : Int32)), .val (.ref aC), .val (.ref aT), .unset] [(.int (2 : Int32)), (.int (0 : Int32))])) t
        refine XS.icmpYes X38.here hx rfl (pc0 := 39) (pc' := 48) rfl (hb hby at_39) rfl (feq (by decide)).2 (by decide) (by decide) ?_
        exact k
      refine OFin.go S42 ?_
      have S43 : ∀ t, Steps p.tables e below (T38.setTop (mkF m 49 #[.val (.int u0), .val (.int u1), .val (.int (0 : Int32)), .val (.int (2 : Int32)), .val (.ref aC), .val (.ref aT), .unset] [(.int (2 : Int32))])) t → Steps p.tables e below (T38.setTop (mkF m 48 #[.val (.int u0), .val (.int u1), .val (.int (0 : Int32)), .val (.int (2 : Int32)), .val (.ref aC), .val (.ref aT), .unset] [])) t := by
        intro t k
        show Steps p.tables e below (T38.setTop (mkF m 48 #[.val (.int u0), .val (.int u1), .val (.int (0 : Int32)), .val (.int (2 : Int32)), .val (.ref aC), .val (.ref aT), .unset] [])) t
        refine XS.iloadN X38.here hx rfl (hb hby at_48) rfl ?_
        exact k
      refine OFin.go S43 ?_
      have S44 : ∀ t, Steps p.tables e below (T38.setTop (mkF m 58 #[.val (.int u0), .val (.int u1), .val (.int (0 : Int32)), .val (.int (2 : Int32)), .val (.ref aC), .val (.ref aT), .unset] [])) t → Steps p.tables e below (T38.setTop (mkF m 49 #[.val (.int u0), .val (.int u1), .val (.int (0 : Int32)), .val (.int (2 : Int32)), .val (.ref aC), .val (.ref aT), .unset] [(.int (2 : Int32))])) t := by
        intro t k
        show Steps p.tables e below (T38.setTop (mkF m 49 #[.val (.int u0), .val (.int u1), .val (.int (0 : Int32)), .val (.int (2 : Int32)), .val (.ref aC), .val (.ref aT), .unset] [(.int (2 : Int32))])) t
        refine XS.ifYes X38.here hx rfl (pc0 := 49) (pc' := 58) rfl (hb hby at_49) rfl ((if0 _ _).trans (feq (by decide)).2) (by decide) (by decide) ?_
        exact k
      refine OFin.go S44 ?_
      have S45 : ∀ t, Steps p.tables e below (T38.setTop (mkF m 60 #[.val (.int u0), .val (.int u1), .val (.int (0 : Int32)), .val (.int (2 : Int32)), .val (.ref aC), .val (.ref aT), .unset] [(.int (2 : Int32)), (.int (0 : Int32))])) t → Steps p.tables e below (T38.setTop (mkF m 58 #[.val (.int u0), .val (.int u1), .val (.int (0 : Int32)), .val (.int (2 : Int32)), .val (.ref aC), .val (.ref aT), .unset] [])) t := by
        intro t k
        show Steps p.tables e below (T38.setTop (mkF m 58 #[.val (.int u0), .val (.int u1), .val (.int (0 : Int32)), .val (.int (2 : Int32)), .val (.ref aC), .val (.ref aT), .unset] [])) t
        refine XS.iloadN X38.here hx rfl (hb hby at_58) rfl ?_
        show Steps p.tables e below (T38.setTop (mkF m 59 #[.val (.int u0), .val (.int u1), .val (.int (0 : Int32)), .val (.int (2 : Int32)), .val (.ref aC), .val (.ref aT), .unset] [(.int (0 : Int32))])) t
        refine XS.iconst X38.here hx rfl (hb hby at_59) ?_
        exact k
      refine OFin.go S45 ?_
      have S46 : ∀ t, Steps p.tables e below (T38.setTop (mkF m 74 #[.val (.int u0), .val (.int u1), .val (.int (0 : Int32)), .val (.int (2 : Int32)), .val (.ref aC), .val (.ref aT), .unset] [])) t → Steps p.tables e below (T38.setTop (mkF m 60 #[.val (.int u0), .val (.int u1), .val (.int (0 : Int32)), .val (.int (2 : Int32)), .val (.ref aC), .val (.ref aT), .unset] [(.int (2 : Int32)), (.int (0 : Int32))])) t := by
        intro t k
        show Steps p.tables e below (T38.setTop (mkF m 60 #[.val (.int u0), .val (.int u1), .val (.int (0 : Int32)), .val (.int (2 : Int32)), .val (.ref aC), .val (.ref aT), .unset] [(.int (2 : Int32)), (.int (0 : Int32))])) t
        refine XS.icmpYes X38.here hx rfl (pc0 := 60) (pc' := 74) rfl (hb hby at_60) rfl (feq (by decide)).2 (by decide) (by decide) ?_
        exact k
      refine OFin.go S46 ?_
      have S47 : ∀ t, Steps p.tables e below (T38.setTop (mkF m 81 #[.val (.int u0), .val (.int u1), .val (.int (0 : Int32)), .val (.int (2 : Int32)), .val (.ref aC), .val (.ref aT), .val (.int (0 : Int32))] [(.ref aT), (.ref aC)])) t → Steps p.tables e below (T38.setTop (mkF m 74 #[.val (.int u0), .val (.int u1), .val (.int (0 : Int32)), .val (.int (2 : Int32)), .val (.ref aC), .val (.ref aT), .unset] [])) t := by
        intro t k
        show Steps p.tables e below (T38.setTop (mkF m 74 #[.val (.int u0), .val (.int u1), .val (.int (0 : Int32)), .val (.int (2 : Int32)), .val (.ref aC), .val (.ref aT), .unset] [])) t
        refine XS.iconst X38.here hx rfl (hb hby at_74) ?_
        show Steps p.tables e below (T38.setTop (mkF m 75 #[.val (.int u0), .val (.int u1), .val (.int (0 : Int32)), .val (.int (2 : Int32)), .val (.ref aC), .val (.ref aT), .unset] [(.int (0 : Int32))])) t
        refine XS.istore X38.here hx rfl (hb hby at_75) rfl (l' := #[.val (.int u0), .val (.int u1), .val (.int (0 : Int32)), .val (.int (2 : Int32)), .val (.ref aC), .val (.ref aT), .val (.int (0 : Int32))]) rfl ?_
        show Steps p.tables e below (T38.setTop (mkF m 77 #[.val (.int u0), .val (.int u1), .val (.int (0 : Int32)), .val (.int (2 : Int32)), .val (.ref aC), .val (.ref aT), .val (.int (0 : Int32))] [])) t
        refine XS.aload X38.here hx rfl (hb hby at_77) rfl rfl ?_
        show Steps p.tables e below (T38.setTop (mkF m 79 #[.val (.int u0), .val (.int u1), .val (.int (0 : Int32)), .val (.int (2 : Int32)), .val (.ref aC), .val (.ref aT), .val (.int (0 : Int32))] [(.ref aC)])) t
        refine XS.aload X38.here hx rfl (hb hby at_79) rfl rfl ?_
        exact k
      refine OFin.go S47 ?_
      obtain ⟨_, T48, Lc48, X48, hQ48, st48⟩ := virtQ X38 hx hZ (y := (⟨"com/example/stowage/stowage/ip/Profile", "follows", "(Lcom/example/stowage/stowage/ip/Profile;)Z"⟩ : MethodName)) hown (hw _ (List.mem_of_getElem? (i := 10) rfl)) (hw _ (List.mem_of_getElem? (i := 12) rfl)) (hw _ (List.mem_of_getElem? (i := 6) rfl)) (hw _ (List.mem_of_getElem? (i := 14) rfl)) (hw _ (List.mem_of_getElem? (i := 11) rfl)) (hw _ (List.mem_of_getElem? (i := 13) rfl)) (by decide) EaC (argsL := [(.ref aT)]) (rest := []) (rm2_0_2 l Z a0 hw [] aC aS aT aA h0 n0 Z0 FaC FaS FaT FaA naCaS naCaT naCaA naSaT naSaA naTaA) (W := 0) (by decide) (by decide) e38 (g := (mkF m 81 #[.val (.int u0), .val (.int u1), .val (.int (0 : Int32)), .val (.int (2 : Int32)), .val (.ref aC), .val (.ref aT), .val (.int (0 : Int32))] [(.ref aT), (.ref aC)])) rfl (by rw [hml]; rfl) (lenOf pd_1 rfl) rfl (by show 2 * 0 + _ ≤ _; exact Nat.le_of_eq rfl) (hb hby at_81) (Nat.le_of_ble_eq_true rfl) (Nat.le_of_ble_eq_true rfl)
      obtain ⟨rfl, N48q, e48⟩ := hQ48
      have N48 := Fr.app N38 N48q
      refine OFin.go st48 ?_
      show OFin p e below _ (T48.setTop (mkF m 84 #[.val (.int u0), .val (.int u1), .val (.int (0 : Int32)), .val (.int (2 : Int32)), .val (.ref aC), .val (.ref aT), .val (.int (0 : Int32))] [(.int (0 : Int32))]))
      have S49 : ∀ t, Steps p.tables e below (T48.setTop (mkF m 86 #[.val (.int u0), .val (.int u1), .val (.int (0 : Int32)), .val (.int (2 : Int32)), .val (.ref aC), .val (.ref aT), .val (.int (0 : Int32))] [(.int (0 : Int32)), (.int (0 : Int32))])) t → Steps p.tables e below (T48.setTop (mkF m 84 #[.val (.int u0), .val (.int u1), .val (.int (0 : Int32)), .val (.int (2 : Int32)), .val (.ref aC), .val (.ref aT), .val (.int (0 : Int32))] [(.int (0 : Int32))])) t := by
        intro t k
        show Steps p.tables e below (T48.setTop (mkF m 84 #[.val (.int u0), .val (.int u1), .val (.int (0 : Int32)), .val (.int (2 : Int32)), .val (.ref aC), .val (.ref aT), .val (.int (0 : Int32))] [(.int (0 : Int32))])) t
        refine XS.iload X48.here hx rfl (hb hby at_84) rfl ?_
        exact k
      refine OFin.go S49 ?_
      have S50 : ∀ t, Steps p.tables e below (T48.setTop (mkF m 89 #[.val (.int u0), .val (.int u1), .val (.int (0 : Int32)), .val (.int (2 : Int32)), .val (.ref aC), .val (.ref aT), .val (.int (0 : Int32))] [])) t → Steps p.tables e below (T48.setTop (mkF m 86 #[.val (.int u0), .val (.int u1), .val (.int (0 : Int32)), .val (.int (2 : Int32)), .val (.ref aC), .val (.ref aT), .val (.int (0 : Int32))] [(.int (0 : Int32)), (.int (0 : Int32))])) t := by
        intro t k
        show Steps p.tables e below (T48.setTop (mkF m 86 #[.val (.int u0), .val (.int u1), .val (.int (0 : Int32)), .val (.int (2 : Int32)), .val (.ref aC), .val (.ref aT), .val (.int (0 : Int32))] [(.int (0 : Int32)), (.int (0 : Int32))])) t
        refine XS.icmpNo X48.here hx rfl (hb hby at_86) rfl (teq (by decide)).2 ?_
        exact k
      refine OFin.go S50 ?_
      have S51 : ∀ t, Steps p.tables e below (T48.setTop (mkF m 94 #[.val (.int u0), .val (.int u1), .val (.int (0 : Int32)), .val (.int (2 : Int32)), .val (.ref aC), .val (.ref aT), .val (.int (0 : Int32))] [(.int (1 : Int32))])) t → Steps p.tables e below (T48.setTop (mkF m 89 #[.val (.int u0), .val (.int u1), .val (.int (0 : Int32)), .val (.int (2 : Int32)), .val (.ref aC), .val (.ref aT), .val (.int (0 : Int32))] [])) t := by
        intro t k
        show Steps p.tables e below (T48.setTop (mkF m 89 #[.val (.int u0), .val (.int u1), .val (.int (0 : Int32)), .val (.int (2 : Int32)), .val (.ref aC), .val (.ref aT), .val (.int (0 : Int32))] [])) t
        refine XS.iconst X48.here hx rfl (hb hby at_89) ?_
        show Steps p.tables e below (T48.setTop (mkF m 90 #[.val (.int u0), .val (.int u1), .val (.int (0 : Int32)), .val (.int (2 : Int32)), .val (.ref aC), .val (.ref aT), .val (.int (0 : Int32))] [(.int (1 : Int32))])) t
        refine XS.goto X48.here hx rfl (pc0 := 90) (pc' := 94) rfl (hb hby at_90) (by decide) (by decide) ?_
        exact k
      refine OFin.go S51 ?_
      exact finZ X48 hx Bd.notSynchronized (t := .boolean) Bd.returns (by simp) (hb hby at_94) rfl (by decide) (by decide) (⟨congrArg (fun z => some (Value.int z)) (rfl : (1 : Int32) = (1 : Int32)), N48⟩)
    ·
      subst hkk4'
      show OFin p e below _ (s₁.setTop (mkF m 14 #[.val (.int u0), .val (.int u1), .val (.int (0 : Int32)), .val (.int (3 : Int32)), .unset, .unset, .unset] []))
      have S52 : ∀ t, Steps p.tables e below (s₁.setTop (mkF m 15 #[.val (.int u0), .val (.int u1), .val (.int (0 : Int32)), .val (.int (3 : Int32)), .unset, .unset, .unset] [(.int (0 : Int32))])) t → Steps p.tables e below (s₁.setTop (mkF m 14 #[.val (.int u0), .val (.int u1), .val (.int (0 : Int32)), .val (.int (3 : Int32)), .unset, .unset, .unset] [])) t := by
        intro t k
        show Steps p.tables e below (s₁.setTop (mkF m 14 #[.val (.int u0), .val (.int u1), .val (.int (0 : Int32)), .val (.int (3 : Int32)), .unset, .unset, .unset] [])) t
        refine XS.iloadN X0.here hx rfl (hb hby at_14) rfl ?_
        exact k
      refine OFin.go S52 ?_
      obtain ⟨_, T53, Lc53, X53, hQ53, st53⟩ := callQ X0 hx hZ (y := (⟨"com/example/stowage/stowage/ip/ProfileFollowsPinLaw", "pick", "(I)Lcom/example/stowage/stowage/ip/Profile;"⟩ : MethodName)) hown (hw _ (List.mem_of_getElem? (i := 1) rfl)) (hw _ (List.mem_of_getElem? (i := 2) rfl)) (hw _ (List.mem_of_getElem? (i := 3) rfl)) (hw _ (List.mem_of_getElem? (i := 4) rfl)) (by decide) (argsL := [(.int (0 : Int32))]) (rest := []) (rm1 l Z a0 hw [] (0 : Int32) aC aS aT aA h0 n0 Z0 SaC SaS SaT SaA) (W := 0) (by decide) (by decide) e0 (g := (mkF m 15 #[.val (.int u0), .val (.int u1), .val (.int (0 : Int32)), .val (.int (3 : Int32)), .unset, .unset, .unset] [(.int (0 : Int32))])) rfl (by rw [hml]; rfl) (lenOf pd_0 rfl) rfl (by show 2 * 0 + _ ≤ _; exact Nat.le_of_eq rfl) (hb hby at_15) (Nat.le_of_ble_eq_true rfl) (Nat.le_of_ble_eq_true rfl)
      obtain ⟨rfl, N53q, e53⟩ := hQ53
      have N53 := Fr.app N0 N53q
      refine OFin.go st53 ?_
      show OFin p e below _ (T53.setTop (mkF m 18 #[.val (.int u0), .val (.int u1), .val (.int (0 : Int32)), .val (.int (3 : Int32)), .unset, .unset, .unset] [(.ref aC)]))
      have S54 : ∀ t, Steps p.tables e below (T53.setTop (mkF m 21 #[.val (.int u0), .val (.int u1), .val (.int (0 : Int32)), .val (.int (3 : Int32)), .val (.ref aC), .unset, .unset] [(.int (3 : Int32))])) t → Steps p.tables e below (T53.setTop (mkF m 18 #[.val (.int u0), .val (.int u1), .val (.int (0 : Int32)), .val (.int (3 : Int32)), .unset, .unset, .unset] [(.ref aC)])) t := by
        intro t k
        show Steps p.tables e below (T53.setTop (mkF m 18 #[.val (.int u0), .val (.int u1), .val (.int (0 : Int32)), .val (.int (3 : Int32)), .unset, .unset, .unset] [(.ref aC)])) t
        refine XS.astore X53.here hx rfl (hb hby at_18) rfl rfl (l' := #[.val (.int u0), .val (.int u1), .val (.int (0 : Int32)), .val (.int (3 : Int32)), .val (.ref aC), .unset, .unset]) rfl ?_
        show Steps p.tables e below (T53.setTop (mkF m 20 #[.val (.int u0), .val (.int u1), .val (.int (0 : Int32)), .val (.int (3 : Int32)), .val (.ref aC), .unset, .unset] [])) t
        refine XS.iloadN X53.here hx rfl (hb hby at_20) rfl ?_
        exact k
      refine OFin.go S54 ?_
      obtain ⟨_, T55, Lc55, X55, hQ55, st55⟩ := callQ X53 hx hZ (y := (⟨"com/example/stowage/stowage/ip/ProfileFollowsPinLaw", "pick", "(I)Lcom/example/stowage/stowage/ip/Profile;"⟩ : MethodName)) hown (hw _ (List.mem_of_getElem? (i := 1) rfl)) (hw _ (List.mem_of_getElem? (i := 2) rfl)) (hw _ (List.mem_of_getElem? (i := 3) rfl)) (hw _ (List.mem_of_getElem? (i := 4) rfl)) (by decide) (argsL := [(.int (3 : Int32))]) (rest := []) (rm1 l Z a0 hw [] (3 : Int32) aC aS aT aA h0 n0 Z0 SaC SaS SaT SaA) (W := 0) (by decide) (by decide) e53 (g := (mkF m 21 #[.val (.int u0), .val (.int u1), .val (.int (0 : Int32)), .val (.int (3 : Int32)), .val (.ref aC), .unset, .unset] [(.int (3 : Int32))])) rfl (by rw [hml]; rfl) (lenOf pd_0 rfl) rfl (by show 2 * 0 + _ ≤ _; exact Nat.le_of_eq rfl) (hb hby at_21) (Nat.le_of_ble_eq_true rfl) (Nat.le_of_ble_eq_true rfl)
      obtain ⟨rfl, N55q, e55⟩ := hQ55
      have N55 := Fr.app N53 N55q
      refine OFin.go st55 ?_
      show OFin p e below _ (T55.setTop (mkF m 24 #[.val (.int u0), .val (.int u1), .val (.int (0 : Int32)), .val (.int (3 : Int32)), .val (.ref aC), .unset, .unset] [(.ref aA)]))
      have S56 : ∀ t, Steps p.tables e below (T55.setTop (mkF m 28 #[.val (.int u0), .val (.int u1), .val (.int (0 : Int32)), .val (.int (3 : Int32)), .val (.ref aC), .val (.ref aA), .unset] [(.int (4 : Int32)), (.int (3 : Int32))])) t → Steps p.tables e below (T55.setTop (mkF m 24 #[.val (.int u0), .val (.int u1), .val (.int (0 : Int32)), .val (.int (3 : Int32)), .val (.ref aC), .unset, .unset] [(.ref aA)])) t := by
        intro t k
        show Steps p.tables e below (T55.setTop (mkF m 24 #[.val (.int u0), .val (.int u1), .val (.int (0 : Int32)), .val (.int (3 : Int32)), .val (.ref aC), .unset, .unset] [(.ref aA)])) t
        refine XS.astore X55.here hx rfl (hb hby at_24) rfl rfl (l' := #[.val (.int u0), .val (.int u1), .val (.int (0 : Int32)), .val (.int (3 : Int32)), .val (.ref aC), .val (.ref aA), .unset]) rfl ?_
        show Steps p.tables e below (T55.setTop (mkF m 26 #[.val (.int u0), .val (.int u1), .val (.int (0 : Int32)), .val (.int (3 : Int32)), .val (.ref aC), .val (.ref aA), .unset] [])) t
        refine XS.iloadN X55.here hx rfl (hb hby at_26) rfl ?_
        show Steps p.tables e below (T55.setTop (mkF m 27 #[.val (.int u0), .val (.int u1), .val (.int (0 : Int32)), .val (.int (3 : Int32)), .val (.ref aC), .val (.ref aA), .unset] [(.int (3 : Int32))])) t
        refine XS.iconst X55.here hx rfl (hb hby at_27) ?_
        exact k
      refine OFin.go S56 ?_
      have S57 : ∀ t, Steps p.tables e below (T55.setTop (mkF m 37 #[.val (.int u0), .val (.int u1), .val (.int (0 : Int32)), .val (.int (3 : Int32)), .val (.ref aC), .val (.ref aA), .unset] [])) t → Steps p.tables e below (T55.setTop (mkF m 28 #[.val (.int u0), .val (.int u1), .val (.int (0 : Int32)), .val (.int (3 : Int32)), .val (.ref aC), .val (.ref aA), .unset] [(.int (4 : Int32)), (.int (3 : Int32))])) t := by
        intro t k
        show Steps p.tables e below (T55.setTop (mkF m 28 #[.val (.int u0), .val (.int u1), .val (.int (0 : Int32)), .val (.int (3 : Int32)), .val (.ref aC), .val (.ref aA), .unset] [(.int (4 : Int32)), (.int (3 : Int32))])) t
        refine XS.icmpYes X55.here hx rfl (pc0 := 28) (pc' := 37) rfl (hb hby at_28) rfl (feq (by decide)).2 (by decide) (by decide) ?_
        exact k
      refine OFin.go S57 ?_
      have S58 : ∀ t, Steps p.tables e below (T55.setTop (mkF m 39 #[.val (.int u0), .val (.int u1), .val (.int (0 : Int32)), .val (.int (3 : Int32)), .val (.ref aC), .val (.ref aA), .unset] [(.int (3 : Int32)), (.int (0 : Int32))])) t → Steps p.tables e below (T55.setTop (mkF m 37 #[.val (.int u0), .val (.int u1), .val (.int (0 : Int32)), .val (.int (3 : Int32)), .val (.ref aC), .val (.ref aA), .unset] [])) t := by
        intro t k
        show Steps p.tables e below (T55.setTop (mkF m 37 #[.val (.int u0), .val (.int u1), .val (.int (0 : Int32)), .val (.int (3 : Int32)), .val (.ref aC), .val (.ref aA), .unset] [])) t
        refine XS.iloadN X55.here hx rfl (hb hby at_37) rfl ?_
        show Steps p.tables e below (T55.setTop (mkF m 38 #[.val (.int u0), .val (.int u1), .val (.int (0 : Int32)), .val (.int (3 : Int32)), .val (.ref aC), .val (.ref aA), .unset] [(.int (0 : Int32))])) t
        refine XS.iloadN X55.here hx rfl (hb hby at_38) rfl ?_
        exact k
      refine OFin.go S58 ?_
      have S59 : ∀ t, Steps p.tables e below (T55.setTop (mkF m 48 #[.val (.int u0), .val (.int u1), .val (.int (0 : Int32)), .val (.int (3 : Int32)), .val (.ref aC), .val (.ref aA), .unset] [])) t → Steps p.tables e below (T55.setTop (mkF m 39 #[.val (.int u0), .val (.int u1), .val (.int (0 : Int32)), .val (.int (3 : Int32)), .val (.ref aC), .val (.ref aA), .unset] [(.int (3 : Int32)), (.int (0 : Int32))])) t := by
        intro t k
        show Steps p.tables e below (T55.setTop (mkF m 39 #[.val (.int u0), .val (.int u1), .val (.int (0 : Int32)), .val (.int (3 : Int32)), .val (.ref aC), .val (.ref aA), .unset] [(.int (3 : Int32)), (.int (0 : Int32))])) t
        refine XS.icmpYes X55.here hx rfl (pc0 := 39) (pc' := 48) rfl (hb hby at_39) rfl (feq (by decide)).2 (by decide) (by decide) ?_
        exact k
      refine OFin.go S59 ?_
      have S60 : ∀ t, Steps p.tables e below (T55.setTop (mkF m 49 #[.val (.int u0), .val (.int u1), .val (.int (0 : Int32)), .val (.int (3 : Int32)), .val (.ref aC), .val (.ref aA), .unset] [(.int (3 : Int32))])) t → Steps p.tables e below (T55.setTop (mkF m 48 #[.val (.int u0), .val (.int u1), .val (.int (0 : Int32)), .val (.int (3 : Int32)), .val (.ref aC), .val (.ref aA), .unset] [])) t := by
        intro t k
        show Steps p.tables e below (T55.setTop (mkF m 48 #[.val (.int u0), .val (.int u1), .val (.int (0 : Int32)), .val (.int (3 : Int32)), .val (.ref aC), .val (.ref aA), .unset] [])) t
        refine XS.iloadN X55.here hx rfl (hb hby at_48) rfl ?_
        exact k
      refine OFin.go S60 ?_
      have S61 : ∀ t, Steps p.tables e below (T55.setTop (mkF m 58 #[.val (.int u0), .val (.int u1), .val (.int (0 : Int32)), .val (.int (3 : Int32)), .val (.ref aC), .val (.ref aA), .unset] [])) t → Steps p.tables e below (T55.setTop (mkF m 49 #[.val (.int u0), .val (.int u1), .val (.int (0 : Int32)), .val (.int (3 : Int32)), .val (.ref aC), .val (.ref aA), .unset] [(.int (3 : Int32))])) t := by
        intro t k
        show Steps p.tables e below (T55.setTop (mkF m 49 #[.val (.int u0), .val (.int u1), .val (.int (0 : Int32)), .val (.int (3 : Int32)), .val (.ref aC), .val (.ref aA), .unset] [(.int (3 : Int32))])) t
        refine XS.ifYes X55.here hx rfl (pc0 := 49) (pc' := 58) rfl (hb hby at_49) rfl ((if0 _ _).trans (feq (by decide)).2) (by decide) (by decide) ?_
        exact k
      refine OFin.go S61 ?_
      have S62 : ∀ t, Steps p.tables e below (T55.setTop (mkF m 60 #[.val (.int u0), .val (.int u1), .val (.int (0 : Int32)), .val (.int (3 : Int32)), .val (.ref aC), .val (.ref aA), .unset] [(.int (2 : Int32)), (.int (0 : Int32))])) t → Steps p.tables e below (T55.setTop (mkF m 58 #[.val (.int u0), .val (.int u1), .val (.int (0 : Int32)), .val (.int (3 : Int32)), .val (.ref aC), .val (.ref aA), .unset] [])) t := by
        intro t k
        show Steps p.tables e below (T55.setTop (mkF m 58 #[.val (.int u0), .val (.int u1), .val (.int (0 : Int32)), .val (.int (3 : Int32)), .val (.ref aC), .val (.ref aA), .unset] [])) t
        refine XS.iloadN X55.here hx rfl (hb hby at_58) rfl ?_
        show Steps p.tables e below (T55.setTop (mkF m 59 #[.val (.int u0), .val (.int u1), .val (.int (0 : Int32)), .val (.int (3 : Int32)), .val (.ref aC), .val (.ref aA), .unset] [(.int (0 : Int32))])) t
        refine XS.iconst X55.here hx rfl (hb hby at_59) ?_
        exact k
      refine OFin.go S62 ?_
      have S63 : ∀ t, Steps p.tables e below (T55.setTop (mkF m 74 #[.val (.int u0), .val (.int u1), .val (.int (0 : Int32)), .val (.int (3 : Int32)), .val (.ref aC), .val (.ref aA), .unset] [])) t → Steps p.tables e below (T55.setTop (mkF m 60 #[.val (.int u0), .val (.int u1), .val (.int (0 : Int32)), .val (.int (3 : Int32)), .val (.ref aC), .val (.ref aA), .unset] [(.int (2 : Int32)), (.int (0 : Int32))])) t := by
        intro t k
        show Steps p.tables e below (T55.setTop (mkF m 60 #[.val (.int u0), .val (.int u1), .val (.int (0 : Int32)), .val (.int (3 : Int32)), .val (.ref aC), .val (.ref aA), .unset] [(.int (2 : Int32)), (.int (0 : Int32))])) t
        refine XS.icmpYes X55.here hx rfl (pc0 := 60) (pc' := 74) rfl (hb hby at_60) rfl (feq (by decide)).2 (by decide) (by decide) ?_
        exact k
      refine OFin.go S63 ?_
      have S64 : ∀ t, Steps p.tables e below (T55.setTop (mkF m 81 #[.val (.int u0), .val (.int u1), .val (.int (0 : Int32)), .val (.int (3 : Int32)), .val (.ref aC), .val (.ref aA), .val (.int (0 : Int32))] [(.ref aA), (.ref aC)])) t → Steps p.tables e below (T55.setTop (mkF m 74 #[.val (.int u0), .val (.int u1), .val (.int (0 : Int32)), .val (.int (3 : Int32)), .val (.ref aC), .val (.ref aA), .unset] [])) t := by
        intro t k
        show Steps p.tables e below (T55.setTop (mkF m 74 #[.val (.int u0), .val (.int u1), .val (.int (0 : Int32)), .val (.int (3 : Int32)), .val (.ref aC), .val (.ref aA), .unset] [])) t
        refine XS.iconst X55.here hx rfl (hb hby at_74) ?_
        show Steps p.tables e below (T55.setTop (mkF m 75 #[.val (.int u0), .val (.int u1), .val (.int (0 : Int32)), .val (.int (3 : Int32)), .val (.ref aC), .val (.ref aA), .unset] [(.int (0 : Int32))])) t
        refine XS.istore X55.here hx rfl (hb hby at_75) rfl (l' := #[.val (.int u0), .val (.int u1), .val (.int (0 : Int32)), .val (.int (3 : Int32)), .val (.ref aC), .val (.ref aA), .val (.int (0 : Int32))]) rfl ?_
        show Steps p.tables e below (T55.setTop (mkF m 77 #[.val (.int u0), .val (.int u1), .val (.int (0 : Int32)), .val (.int (3 : Int32)), .val (.ref aC), .val (.ref aA), .val (.int (0 : Int32))] [])) t
        refine XS.aload X55.here hx rfl (hb hby at_77) rfl rfl ?_
        show Steps p.tables e below (T55.setTop (mkF m 79 #[.val (.int u0), .val (.int u1), .val (.int (0 : Int32)), .val (.int (3 : Int32)), .val (.ref aC), .val (.ref aA), .val (.int (0 : Int32))] [(.ref aC)])) t
        refine XS.aload X55.here hx rfl (hb hby at_79) rfl rfl ?_
        exact k
      refine OFin.go S64 ?_
      obtain ⟨_, T65, Lc65, X65, hQ65, st65⟩ := virtQ X55 hx hZ (y := (⟨"com/example/stowage/stowage/ip/Profile", "follows", "(Lcom/example/stowage/stowage/ip/Profile;)Z"⟩ : MethodName)) hown (hw _ (List.mem_of_getElem? (i := 10) rfl)) (hw _ (List.mem_of_getElem? (i := 12) rfl)) (hw _ (List.mem_of_getElem? (i := 6) rfl)) (hw _ (List.mem_of_getElem? (i := 14) rfl)) (hw _ (List.mem_of_getElem? (i := 11) rfl)) (hw _ (List.mem_of_getElem? (i := 13) rfl)) (by decide) EaC (argsL := [(.ref aA)]) (rest := []) (rm2_0_3 l Z a0 hw [] aC aS aT aA h0 n0 Z0 FaC FaS FaT FaA naCaS naCaT naCaA naSaT naSaA naTaA) (W := 0) (by decide) (by decide) e55 (g := (mkF m 81 #[.val (.int u0), .val (.int u1), .val (.int (0 : Int32)), .val (.int (3 : Int32)), .val (.ref aC), .val (.ref aA), .val (.int (0 : Int32))] [(.ref aA), (.ref aC)])) rfl (by rw [hml]; rfl) (lenOf pd_1 rfl) rfl (by show 2 * 0 + _ ≤ _; exact Nat.le_of_eq rfl) (hb hby at_81) (Nat.le_of_ble_eq_true rfl) (Nat.le_of_ble_eq_true rfl)
      obtain ⟨rfl, N65q, e65⟩ := hQ65
      have N65 := Fr.app N55 N65q
      refine OFin.go st65 ?_
      show OFin p e below _ (T65.setTop (mkF m 84 #[.val (.int u0), .val (.int u1), .val (.int (0 : Int32)), .val (.int (3 : Int32)), .val (.ref aC), .val (.ref aA), .val (.int (0 : Int32))] [(.int (0 : Int32))]))
      have S66 : ∀ t, Steps p.tables e below (T65.setTop (mkF m 86 #[.val (.int u0), .val (.int u1), .val (.int (0 : Int32)), .val (.int (3 : Int32)), .val (.ref aC), .val (.ref aA), .val (.int (0 : Int32))] [(.int (0 : Int32)), (.int (0 : Int32))])) t → Steps p.tables e below (T65.setTop (mkF m 84 #[.val (.int u0), .val (.int u1), .val (.int (0 : Int32)), .val (.int (3 : Int32)), .val (.ref aC), .val (.ref aA), .val (.int (0 : Int32))] [(.int (0 : Int32))])) t := by
        intro t k
        show Steps p.tables e below (T65.setTop (mkF m 84 #[.val (.int u0), .val (.int u1), .val (.int (0 : Int32)), .val (.int (3 : Int32)), .val (.ref aC), .val (.ref aA), .val (.int (0 : Int32))] [(.int (0 : Int32))])) t
        refine XS.iload X65.here hx rfl (hb hby at_84) rfl ?_
        exact k
      refine OFin.go S66 ?_
      have S67 : ∀ t, Steps p.tables e below (T65.setTop (mkF m 89 #[.val (.int u0), .val (.int u1), .val (.int (0 : Int32)), .val (.int (3 : Int32)), .val (.ref aC), .val (.ref aA), .val (.int (0 : Int32))] [])) t → Steps p.tables e below (T65.setTop (mkF m 86 #[.val (.int u0), .val (.int u1), .val (.int (0 : Int32)), .val (.int (3 : Int32)), .val (.ref aC), .val (.ref aA), .val (.int (0 : Int32))] [(.int (0 : Int32)), (.int (0 : Int32))])) t := by
        intro t k
        show Steps p.tables e below (T65.setTop (mkF m 86 #[.val (.int u0), .val (.int u1), .val (.int (0 : Int32)), .val (.int (3 : Int32)), .val (.ref aC), .val (.ref aA), .val (.int (0 : Int32))] [(.int (0 : Int32)), (.int (0 : Int32))])) t
        refine XS.icmpNo X65.here hx rfl (hb hby at_86) rfl (teq (by decide)).2 ?_
        exact k
      refine OFin.go S67 ?_
      have S68 : ∀ t, Steps p.tables e below (T65.setTop (mkF m 94 #[.val (.int u0), .val (.int u1), .val (.int (0 : Int32)), .val (.int (3 : Int32)), .val (.ref aC), .val (.ref aA), .val (.int (0 : Int32))] [(.int (1 : Int32))])) t → Steps p.tables e below (T65.setTop (mkF m 89 #[.val (.int u0), .val (.int u1), .val (.int (0 : Int32)), .val (.int (3 : Int32)), .val (.ref aC), .val (.ref aA), .val (.int (0 : Int32))] [])) t := by
        intro t k
        show Steps p.tables e below (T65.setTop (mkF m 89 #[.val (.int u0), .val (.int u1), .val (.int (0 : Int32)), .val (.int (3 : Int32)), .val (.ref aC), .val (.ref aA), .val (.int (0 : Int32))] [])) t
        refine XS.iconst X65.here hx rfl (hb hby at_89) ?_
        show Steps p.tables e below (T65.setTop (mkF m 90 #[.val (.int u0), .val (.int u1), .val (.int (0 : Int32)), .val (.int (3 : Int32)), .val (.ref aC), .val (.ref aA), .val (.int (0 : Int32))] [(.int (1 : Int32))])) t
        refine XS.goto X65.here hx rfl (pc0 := 90) (pc' := 94) rfl (hb hby at_90) (by decide) (by decide) ?_
        exact k
      refine OFin.go S68 ?_
      exact finZ X65 hx Bd.notSynchronized (t := .boolean) Bd.returns (by simp) (hb hby at_94) rfl (by decide) (by decide) (⟨congrArg (fun z => some (Value.int z)) (rfl : (1 : Int32) = (1 : Int32)), N65⟩)
    ·
      subst hkk4'
      show OFin p e below _ (s₁.setTop (mkF m 14 #[.val (.int u0), .val (.int u1), .val (.int (0 : Int32)), .val (.int (4 : Int32)), .unset, .unset, .unset] []))
      have S69 : ∀ t, Steps p.tables e below (s₁.setTop (mkF m 15 #[.val (.int u0), .val (.int u1), .val (.int (0 : Int32)), .val (.int (4 : Int32)), .unset, .unset, .unset] [(.int (0 : Int32))])) t → Steps p.tables e below (s₁.setTop (mkF m 14 #[.val (.int u0), .val (.int u1), .val (.int (0 : Int32)), .val (.int (4 : Int32)), .unset, .unset, .unset] [])) t := by
        intro t k
        show Steps p.tables e below (s₁.setTop (mkF m 14 #[.val (.int u0), .val (.int u1), .val (.int (0 : Int32)), .val (.int (4 : Int32)), .unset, .unset, .unset] [])) t
        refine XS.iloadN X0.here hx rfl (hb hby at_14) rfl ?_
        exact k
      refine OFin.go S69 ?_
      obtain ⟨_, T70, Lc70, X70, hQ70, st70⟩ := callQ X0 hx hZ (y := (⟨"com/example/stowage/stowage/ip/ProfileFollowsPinLaw", "pick", "(I)Lcom/example/stowage/stowage/ip/Profile;"⟩ : MethodName)) hown (hw _ (List.mem_of_getElem? (i := 1) rfl)) (hw _ (List.mem_of_getElem? (i := 2) rfl)) (hw _ (List.mem_of_getElem? (i := 3) rfl)) (hw _ (List.mem_of_getElem? (i := 4) rfl)) (by decide) (argsL := [(.int (0 : Int32))]) (rest := []) (rm1 l Z a0 hw [] (0 : Int32) aC aS aT aA h0 n0 Z0 SaC SaS SaT SaA) (W := 0) (by decide) (by decide) e0 (g := (mkF m 15 #[.val (.int u0), .val (.int u1), .val (.int (0 : Int32)), .val (.int (4 : Int32)), .unset, .unset, .unset] [(.int (0 : Int32))])) rfl (by rw [hml]; rfl) (lenOf pd_0 rfl) rfl (by show 2 * 0 + _ ≤ _; exact Nat.le_of_eq rfl) (hb hby at_15) (Nat.le_of_ble_eq_true rfl) (Nat.le_of_ble_eq_true rfl)
      obtain ⟨rfl, N70q, e70⟩ := hQ70
      have N70 := Fr.app N0 N70q
      refine OFin.go st70 ?_
      show OFin p e below _ (T70.setTop (mkF m 18 #[.val (.int u0), .val (.int u1), .val (.int (0 : Int32)), .val (.int (4 : Int32)), .unset, .unset, .unset] [(.ref aC)]))
      have S71 : ∀ t, Steps p.tables e below (T70.setTop (mkF m 21 #[.val (.int u0), .val (.int u1), .val (.int (0 : Int32)), .val (.int (4 : Int32)), .val (.ref aC), .unset, .unset] [(.int (4 : Int32))])) t → Steps p.tables e below (T70.setTop (mkF m 18 #[.val (.int u0), .val (.int u1), .val (.int (0 : Int32)), .val (.int (4 : Int32)), .unset, .unset, .unset] [(.ref aC)])) t := by
        intro t k
        show Steps p.tables e below (T70.setTop (mkF m 18 #[.val (.int u0), .val (.int u1), .val (.int (0 : Int32)), .val (.int (4 : Int32)), .unset, .unset, .unset] [(.ref aC)])) t
        refine XS.astore X70.here hx rfl (hb hby at_18) rfl rfl (l' := #[.val (.int u0), .val (.int u1), .val (.int (0 : Int32)), .val (.int (4 : Int32)), .val (.ref aC), .unset, .unset]) rfl ?_
        show Steps p.tables e below (T70.setTop (mkF m 20 #[.val (.int u0), .val (.int u1), .val (.int (0 : Int32)), .val (.int (4 : Int32)), .val (.ref aC), .unset, .unset] [])) t
        refine XS.iloadN X70.here hx rfl (hb hby at_20) rfl ?_
        exact k
      refine OFin.go S71 ?_
      obtain ⟨_, T72, Lc72, X72, hQ72, st72⟩ := callQ X70 hx hZ (y := (⟨"com/example/stowage/stowage/ip/ProfileFollowsPinLaw", "pick", "(I)Lcom/example/stowage/stowage/ip/Profile;"⟩ : MethodName)) hown (hw _ (List.mem_of_getElem? (i := 1) rfl)) (hw _ (List.mem_of_getElem? (i := 2) rfl)) (hw _ (List.mem_of_getElem? (i := 3) rfl)) (hw _ (List.mem_of_getElem? (i := 4) rfl)) (by decide) (argsL := [(.int (4 : Int32))]) (rest := []) (rm1 l Z a0 hw [] (4 : Int32) aC aS aT aA h0 n0 Z0 SaC SaS SaT SaA) (W := 0) (by decide) (by decide) e70 (g := (mkF m 21 #[.val (.int u0), .val (.int u1), .val (.int (0 : Int32)), .val (.int (4 : Int32)), .val (.ref aC), .unset, .unset] [(.int (4 : Int32))])) rfl (by rw [hml]; rfl) (lenOf pd_0 rfl) rfl (by show 2 * 0 + _ ≤ _; exact Nat.le_of_eq rfl) (hb hby at_21) (Nat.le_of_ble_eq_true rfl) (Nat.le_of_ble_eq_true rfl)
      obtain ⟨rfl, N72q, e72⟩ := hQ72
      have N72 := Fr.app N70 N72q
      refine OFin.go st72 ?_
      show OFin p e below _ (T72.setTop (mkF m 24 #[.val (.int u0), .val (.int u1), .val (.int (0 : Int32)), .val (.int (4 : Int32)), .val (.ref aC), .unset, .unset] [.null]))
      have S73 : ∀ t, Steps p.tables e below (T72.setTop (mkF m 28 #[.val (.int u0), .val (.int u1), .val (.int (0 : Int32)), .val (.int (4 : Int32)), .val (.ref aC), .val .null, .unset] [(.int (4 : Int32)), (.int (4 : Int32))])) t → Steps p.tables e below (T72.setTop (mkF m 24 #[.val (.int u0), .val (.int u1), .val (.int (0 : Int32)), .val (.int (4 : Int32)), .val (.ref aC), .unset, .unset] [.null])) t := by
        intro t k
        show Steps p.tables e below (T72.setTop (mkF m 24 #[.val (.int u0), .val (.int u1), .val (.int (0 : Int32)), .val (.int (4 : Int32)), .val (.ref aC), .unset, .unset] [.null])) t
        refine XS.astore X72.here hx rfl (hb hby at_24) rfl rfl (l' := #[.val (.int u0), .val (.int u1), .val (.int (0 : Int32)), .val (.int (4 : Int32)), .val (.ref aC), .val .null, .unset]) rfl ?_
        show Steps p.tables e below (T72.setTop (mkF m 26 #[.val (.int u0), .val (.int u1), .val (.int (0 : Int32)), .val (.int (4 : Int32)), .val (.ref aC), .val .null, .unset] [])) t
        refine XS.iloadN X72.here hx rfl (hb hby at_26) rfl ?_
        show Steps p.tables e below (T72.setTop (mkF m 27 #[.val (.int u0), .val (.int u1), .val (.int (0 : Int32)), .val (.int (4 : Int32)), .val (.ref aC), .val .null, .unset] [(.int (4 : Int32))])) t
        refine XS.iconst X72.here hx rfl (hb hby at_27) ?_
        exact k
      refine OFin.go S73 ?_
      have S74 : ∀ t, Steps p.tables e below (T72.setTop (mkF m 31 #[.val (.int u0), .val (.int u1), .val (.int (0 : Int32)), .val (.int (4 : Int32)), .val (.ref aC), .val .null, .unset] [])) t → Steps p.tables e below (T72.setTop (mkF m 28 #[.val (.int u0), .val (.int u1), .val (.int (0 : Int32)), .val (.int (4 : Int32)), .val (.ref aC), .val .null, .unset] [(.int (4 : Int32)), (.int (4 : Int32))])) t := by
        intro t k
        show Steps p.tables e below (T72.setTop (mkF m 28 #[.val (.int u0), .val (.int u1), .val (.int (0 : Int32)), .val (.int (4 : Int32)), .val (.ref aC), .val .null, .unset] [(.int (4 : Int32)), (.int (4 : Int32))])) t
        refine XS.icmpNo X72.here hx rfl (hb hby at_28) rfl (teq (by decide)).2 ?_
        exact k
      refine OFin.go S74 ?_
      have S75 : ∀ t, Steps p.tables e below (T72.setTop (mkF m 81 #[.val (.int u0), .val (.int u1), .val (.int (0 : Int32)), .val (.int (4 : Int32)), .val (.ref aC), .val .null, .val (.int (0 : Int32))] [.null, (.ref aC)])) t → Steps p.tables e below (T72.setTop (mkF m 31 #[.val (.int u0), .val (.int u1), .val (.int (0 : Int32)), .val (.int (4 : Int32)), .val (.ref aC), .val .null, .unset] [])) t := by
        intro t k
        show Steps p.tables e below (T72.setTop (mkF m 31 #[.val (.int u0), .val (.int u1), .val (.int (0 : Int32)), .val (.int (4 : Int32)), .val (.ref aC), .val .null, .unset] [])) t
        refine XS.iconst X72.here hx rfl (hb hby at_31) ?_
        show Steps p.tables e below (T72.setTop (mkF m 32 #[.val (.int u0), .val (.int u1), .val (.int (0 : Int32)), .val (.int (4 : Int32)), .val (.ref aC), .val .null, .unset] [(.int (0 : Int32))])) t
        refine XS.istore X72.here hx rfl (hb hby at_32) rfl (l' := #[.val (.int u0), .val (.int u1), .val (.int (0 : Int32)), .val (.int (4 : Int32)), .val (.ref aC), .val .null, .val (.int (0 : Int32))]) rfl ?_
        show Steps p.tables e below (T72.setTop (mkF m 34 #[.val (.int u0), .val (.int u1), .val (.int (0 : Int32)), .val (.int (4 : Int32)), .val (.ref aC), .val .null, .val (.int (0 : Int32))] [])) t
        refine XS.goto X72.here hx rfl (pc0 := 34) (pc' := 77) rfl (hb hby at_34) (by decide) (by decide) ?_
        show Steps p.tables e below (T72.setTop (mkF m 77 #[.val (.int u0), .val (.int u1), .val (.int (0 : Int32)), .val (.int (4 : Int32)), .val (.ref aC), .val .null, .val (.int (0 : Int32))] [])) t
        refine XS.aload X72.here hx rfl (hb hby at_77) rfl rfl ?_
        show Steps p.tables e below (T72.setTop (mkF m 79 #[.val (.int u0), .val (.int u1), .val (.int (0 : Int32)), .val (.int (4 : Int32)), .val (.ref aC), .val .null, .val (.int (0 : Int32))] [(.ref aC)])) t
        refine XS.aload X72.here hx rfl (hb hby at_79) rfl rfl ?_
        exact k
      refine OFin.go S75 ?_
      obtain ⟨_, T76, Lc76, X76, hQ76, st76⟩ := virtQ X72 hx hZ (y := (⟨"com/example/stowage/stowage/ip/Profile", "follows", "(Lcom/example/stowage/stowage/ip/Profile;)Z"⟩ : MethodName)) hown (hw _ (List.mem_of_getElem? (i := 10) rfl)) (hw _ (List.mem_of_getElem? (i := 12) rfl)) (hw _ (List.mem_of_getElem? (i := 6) rfl)) (hw _ (List.mem_of_getElem? (i := 14) rfl)) (hw _ (List.mem_of_getElem? (i := 11) rfl)) (hw _ (List.mem_of_getElem? (i := 13) rfl)) (by decide) EaC (argsL := [.null]) (rest := []) (rm2_0_4 l Z a0 hw [] aC aS aT aA h0 n0 Z0 FaC FaS FaT FaA naCaS naCaT naCaA naSaT naSaA naTaA) (W := 0) (by decide) (by decide) e72 (g := (mkF m 81 #[.val (.int u0), .val (.int u1), .val (.int (0 : Int32)), .val (.int (4 : Int32)), .val (.ref aC), .val .null, .val (.int (0 : Int32))] [.null, (.ref aC)])) rfl (by rw [hml]; rfl) (lenOf pd_1 rfl) rfl (by show 2 * 0 + _ ≤ _; exact Nat.le_of_eq rfl) (hb hby at_81) (Nat.le_of_ble_eq_true rfl) (Nat.le_of_ble_eq_true rfl)
      obtain ⟨rfl, N76q, e76⟩ := hQ76
      have N76 := Fr.app N72 N76q
      refine OFin.go st76 ?_
      show OFin p e below _ (T76.setTop (mkF m 84 #[.val (.int u0), .val (.int u1), .val (.int (0 : Int32)), .val (.int (4 : Int32)), .val (.ref aC), .val .null, .val (.int (0 : Int32))] [(.int (0 : Int32))]))
      have S77 : ∀ t, Steps p.tables e below (T76.setTop (mkF m 86 #[.val (.int u0), .val (.int u1), .val (.int (0 : Int32)), .val (.int (4 : Int32)), .val (.ref aC), .val .null, .val (.int (0 : Int32))] [(.int (0 : Int32)), (.int (0 : Int32))])) t → Steps p.tables e below (T76.setTop (mkF m 84 #[.val (.int u0), .val (.int u1), .val (.int (0 : Int32)), .val (.int (4 : Int32)), .val (.ref aC), .val .null, .val (.int (0 : Int32))] [(.int (0 : Int32))])) t := by
        intro t k
        show Steps p.tables e below (T76.setTop (mkF m 84 #[.val (.int u0), .val (.int u1), .val (.int (0 : Int32)), .val (.int (4 : Int32)), .val (.ref aC), .val .null, .val (.int (0 : Int32))] [(.int (0 : Int32))])) t
        refine XS.iload X76.here hx rfl (hb hby at_84) rfl ?_
        exact k
      refine OFin.go S77 ?_
      have S78 : ∀ t, Steps p.tables e below (T76.setTop (mkF m 89 #[.val (.int u0), .val (.int u1), .val (.int (0 : Int32)), .val (.int (4 : Int32)), .val (.ref aC), .val .null, .val (.int (0 : Int32))] [])) t → Steps p.tables e below (T76.setTop (mkF m 86 #[.val (.int u0), .val (.int u1), .val (.int (0 : Int32)), .val (.int (4 : Int32)), .val (.ref aC), .val .null, .val (.int (0 : Int32))] [(.int (0 : Int32)), (.int (0 : Int32))])) t := by
        intro t k
        show Steps p.tables e below (T76.setTop (mkF m 86 #[.val (.int u0), .val (.int u1), .val (.int (0 : Int32)), .val (.int (4 : Int32)), .val (.ref aC), .val .null, .val (.int (0 : Int32))] [(.int (0 : Int32)), (.int (0 : Int32))])) t
        refine XS.icmpNo X76.here hx rfl (hb hby at_86) rfl (teq (by decide)).2 ?_
        exact k
      refine OFin.go S78 ?_
      have S79 : ∀ t, Steps p.tables e below (T76.setTop (mkF m 94 #[.val (.int u0), .val (.int u1), .val (.int (0 : Int32)), .val (.int (4 : Int32)), .val (.ref aC), .val .null, .val (.int (0 : Int32))] [(.int (1 : Int32))])) t → Steps p.tables e below (T76.setTop (mkF m 89 #[.val (.int u0), .val (.int u1), .val (.int (0 : Int32)), .val (.int (4 : Int32)), .val (.ref aC), .val .null, .val (.int (0 : Int32))] [])) t := by
        intro t k
        show Steps p.tables e below (T76.setTop (mkF m 89 #[.val (.int u0), .val (.int u1), .val (.int (0 : Int32)), .val (.int (4 : Int32)), .val (.ref aC), .val .null, .val (.int (0 : Int32))] [])) t
        refine XS.iconst X76.here hx rfl (hb hby at_89) ?_
        show Steps p.tables e below (T76.setTop (mkF m 90 #[.val (.int u0), .val (.int u1), .val (.int (0 : Int32)), .val (.int (4 : Int32)), .val (.ref aC), .val .null, .val (.int (0 : Int32))] [(.int (1 : Int32))])) t
        refine XS.goto X76.here hx rfl (pc0 := 90) (pc' := 94) rfl (hb hby at_90) (by decide) (by decide) ?_
        exact k
      refine OFin.go S79 ?_
      exact finZ X76 hx Bd.notSynchronized (t := .boolean) Bd.returns (by simp) (hb hby at_94) rfl (by decide) (by decide) (⟨congrArg (fun z => some (Value.int z)) (rfl : (1 : Int32) = (1 : Int32)), N76⟩)
  ·
    subst hkk2'
    show OFin p e below _ (s₁.setTop (mkF m 7 #[.val (.int u0), .val (.int u1), .val (.int (1 : Int32)), .unset, .unset, .unset, .unset] []))
    have S80 : ∀ t, Steps p.tables e below (s₁.setTop (mkF m 14 #[.val (.int u0), .val (.int u1), .val (.int (1 : Int32)), .val (.int ((u1 &&& (2147483647 : Int32)) % (5 : Int32))), .unset, .unset, .unset] [])) t → Steps p.tables e below (s₁.setTop (mkF m 7 #[.val (.int u0), .val (.int u1), .val (.int (1 : Int32)), .unset, .unset, .unset, .unset] [])) t := by
      intro t k
      show Steps p.tables e below (s₁.setTop (mkF m 7 #[.val (.int u0), .val (.int u1), .val (.int (1 : Int32)), .unset, .unset, .unset, .unset] [])) t
      refine XS.iloadN X0.here hx rfl (hb hby at_7) rfl ?_
      show Steps p.tables e below (s₁.setTop (mkF m 8 #[.val (.int u0), .val (.int u1), .val (.int (1 : Int32)), .unset, .unset, .unset, .unset] [(.int u1)])) t
      refine X0.ldcInt hx hown (mvT hZ (hw _ (List.mem_of_getElem? (i := 0) rfl))) (g := (mkF m 8 #[.val (.int u0), .val (.int u1), .val (.int (1 : Int32)), .unset, .unset, .unset, .unset] [(.int u1)])) rfl (hb hby at_8) _ ?_
      show Steps p.tables e below (s₁.setTop (mkF m 10 #[.val (.int u0), .val (.int u1), .val (.int (1 : Int32)), .unset, .unset, .unset, .unset] [(.int (2147483647 : Int32)), (.int u1)])) t
      refine XS.iand X0.here hx rfl (hb hby at_10) rfl ?_
      show Steps p.tables e below (s₁.setTop (mkF m 11 #[.val (.int u0), .val (.int u1), .val (.int (1 : Int32)), .unset, .unset, .unset, .unset] [(.int (u1 &&& (2147483647 : Int32)))])) t
      refine XS.iconst X0.here hx rfl (hb hby at_11) ?_
      show Steps p.tables e below (s₁.setTop (mkF m 12 #[.val (.int u0), .val (.int u1), .val (.int (1 : Int32)), .unset, .unset, .unset, .unset] [(.int (5 : Int32)), (.int (u1 &&& (2147483647 : Int32)))])) t
      refine iremM X0 hx rfl (hb hby at_12) rfl (by decide) ?_
      show Steps p.tables e below (s₁.setTop (mkF m 13 #[.val (.int u0), .val (.int u1), .val (.int (1 : Int32)), .unset, .unset, .unset, .unset] [(.int ((u1 &&& (2147483647 : Int32)) % (5 : Int32)))])) t
      refine XS.istoreN X0.here hx rfl (hb hby at_13) rfl (l' := #[.val (.int u0), .val (.int u1), .val (.int (1 : Int32)), .val (.int ((u1 &&& (2147483647 : Int32)) % (5 : Int32))), .unset, .unset, .unset]) rfl ?_
      exact k
    refine OFin.go S80 ?_
    obtain ⟨kk81, hkk81⟩ : ∃ z : Int32, z = ((u1 &&& (2147483647 : Int32)) % (5 : Int32)) := ⟨_, rfl⟩
    rw [← hkk81]
    rcases (own_k5 _ hkk81 : kk81 = (0 : Int32) ∨ kk81 = (1 : Int32) ∨ kk81 = (2 : Int32) ∨ kk81 = (3 : Int32) ∨ kk81 = (4 : Int32)) with hkk81'  | hkk81'  | hkk81'  | hkk81'  | hkk81' 
    ·
      subst hkk81'
      show OFin p e below _ (s₁.setTop (mkF m 14 #[.val (.int u0), .val (.int u1), .val (.int (1 : Int32)), .val (.int (0 : Int32)), .unset, .unset, .unset] []))
      have S82 : ∀ t, Steps p.tables e below (s₁.setTop (mkF m 15 #[.val (.int u0), .val (.int u1), .val (.int (1 : Int32)), .val (.int (0 : Int32)), .unset, .unset, .unset] [(.int (1 : Int32))])) t → Steps p.tables e below (s₁.setTop (mkF m 14 #[.val (.int u0), .val (.int u1), .val (.int (1 : Int32)), .val (.int (0 : Int32)), .unset, .unset, .unset] [])) t := by
        intro t k
        show Steps p.tables e below (s₁.setTop (mkF m 14 #[.val (.int u0), .val (.int u1), .val (.int (1 : Int32)), .val (.int (0 : Int32)), .unset, .unset, .unset] [])) t
        refine XS.iloadN X0.here hx rfl (hb hby at_14) rfl ?_
        exact k
      refine OFin.go S82 ?_
      obtain ⟨_, T83, Lc83, X83, hQ83, st83⟩ := callQ X0 hx hZ (y := (⟨"com/example/stowage/stowage/ip/ProfileFollowsPinLaw", "pick", "(I)Lcom/example/stowage/stowage/ip/Profile;"⟩ : MethodName)) hown (hw _ (List.mem_of_getElem? (i := 1) rfl)) (hw _ (List.mem_of_getElem? (i := 2) rfl)) (hw _ (List.mem_of_getElem? (i := 3) rfl)) (hw _ (List.mem_of_getElem? (i := 4) rfl)) (by decide) (argsL := [(.int (1 : Int32))]) (rest := []) (rm1 l Z a0 hw [] (1 : Int32) aC aS aT aA h0 n0 Z0 SaC SaS SaT SaA) (W := 0) (by decide) (by decide) e0 (g := (mkF m 15 #[.val (.int u0), .val (.int u1), .val (.int (1 : Int32)), .val (.int (0 : Int32)), .unset, .unset, .unset] [(.int (1 : Int32))])) rfl (by rw [hml]; rfl) (lenOf pd_0 rfl) rfl (by show 2 * 0 + _ ≤ _; exact Nat.le_of_eq rfl) (hb hby at_15) (Nat.le_of_ble_eq_true rfl) (Nat.le_of_ble_eq_true rfl)
      obtain ⟨rfl, N83q, e83⟩ := hQ83
      have N83 := Fr.app N0 N83q
      refine OFin.go st83 ?_
      show OFin p e below _ (T83.setTop (mkF m 18 #[.val (.int u0), .val (.int u1), .val (.int (1 : Int32)), .val (.int (0 : Int32)), .unset, .unset, .unset] [(.ref aS)]))
      have S84 : ∀ t, Steps p.tables e below (T83.setTop (mkF m 21 #[.val (.int u0), .val (.int u1), .val (.int (1 : Int32)), .val (.int (0 : Int32)), .val (.ref aS), .unset, .unset] [(.int (0 : Int32))])) t → Steps p.tables e below (T83.setTop (mkF m 18 #[.val (.int u0), .val (.int u1), .val (.int (1 : Int32)), .val (.int (0 : Int32)), .unset, .unset, .unset] [(.ref aS)])) t := by
        intro t k
        show Steps p.tables e below (T83.setTop (mkF m 18 #[.val (.int u0), .val (.int u1), .val (.int (1 : Int32)), .val (.int (0 : Int32)), .unset, .unset, .unset] [(.ref aS)])) t
        refine XS.astore X83.here hx rfl (hb hby at_18) rfl rfl (l' := #[.val (.int u0), .val (.int u1), .val (.int (1 : Int32)), .val (.int (0 : Int32)), .val (.ref aS), .unset, .unset]) rfl ?_
        show Steps p.tables e below (T83.setTop (mkF m 20 #[.val (.int u0), .val (.int u1), .val (.int (1 : Int32)), .val (.int (0 : Int32)), .val (.ref aS), .unset, .unset] [])) t
        refine XS.iloadN X83.here hx rfl (hb hby at_20) rfl ?_
        exact k
      refine OFin.go S84 ?_
      obtain ⟨_, T85, Lc85, X85, hQ85, st85⟩ := callQ X83 hx hZ (y := (⟨"com/example/stowage/stowage/ip/ProfileFollowsPinLaw", "pick", "(I)Lcom/example/stowage/stowage/ip/Profile;"⟩ : MethodName)) hown (hw _ (List.mem_of_getElem? (i := 1) rfl)) (hw _ (List.mem_of_getElem? (i := 2) rfl)) (hw _ (List.mem_of_getElem? (i := 3) rfl)) (hw _ (List.mem_of_getElem? (i := 4) rfl)) (by decide) (argsL := [(.int (0 : Int32))]) (rest := []) (rm1 l Z a0 hw [] (0 : Int32) aC aS aT aA h0 n0 Z0 SaC SaS SaT SaA) (W := 0) (by decide) (by decide) e83 (g := (mkF m 21 #[.val (.int u0), .val (.int u1), .val (.int (1 : Int32)), .val (.int (0 : Int32)), .val (.ref aS), .unset, .unset] [(.int (0 : Int32))])) rfl (by rw [hml]; rfl) (lenOf pd_0 rfl) rfl (by show 2 * 0 + _ ≤ _; exact Nat.le_of_eq rfl) (hb hby at_21) (Nat.le_of_ble_eq_true rfl) (Nat.le_of_ble_eq_true rfl)
      obtain ⟨rfl, N85q, e85⟩ := hQ85
      have N85 := Fr.app N83 N85q
      refine OFin.go st85 ?_
      show OFin p e below _ (T85.setTop (mkF m 24 #[.val (.int u0), .val (.int u1), .val (.int (1 : Int32)), .val (.int (0 : Int32)), .val (.ref aS), .unset, .unset] [(.ref aC)]))
      have S86 : ∀ t, Steps p.tables e below (T85.setTop (mkF m 28 #[.val (.int u0), .val (.int u1), .val (.int (1 : Int32)), .val (.int (0 : Int32)), .val (.ref aS), .val (.ref aC), .unset] [(.int (4 : Int32)), (.int (0 : Int32))])) t → Steps p.tables e below (T85.setTop (mkF m 24 #[.val (.int u0), .val (.int u1), .val (.int (1 : Int32)), .val (.int (0 : Int32)), .val (.ref aS), .unset, .unset] [(.ref aC)])) t := by
        intro t k
        show Steps p.tables e below (T85.setTop (mkF m 24 #[.val (.int u0), .val (.int u1), .val (.int (1 : Int32)), .val (.int (0 : Int32)), .val (.ref aS), .unset, .unset] [(.ref aC)])) t
        refine XS.astore X85.here hx rfl (hb hby at_24) rfl rfl (l' := #[.val (.int u0), .val (.int u1), .val (.int (1 : Int32)), .val (.int (0 : Int32)), .val (.ref aS), .val (.ref aC), .unset]) rfl ?_
        show Steps p.tables e below (T85.setTop (mkF m 26 #[.val (.int u0), .val (.int u1), .val (.int (1 : Int32)), .val (.int (0 : Int32)), .val (.ref aS), .val (.ref aC), .unset] [])) t
        refine XS.iloadN X85.here hx rfl (hb hby at_26) rfl ?_
        show Steps p.tables e below (T85.setTop (mkF m 27 #[.val (.int u0), .val (.int u1), .val (.int (1 : Int32)), .val (.int (0 : Int32)), .val (.ref aS), .val (.ref aC), .unset] [(.int (0 : Int32))])) t
        refine XS.iconst X85.here hx rfl (hb hby at_27) ?_
        exact k
      refine OFin.go S86 ?_
      have S87 : ∀ t, Steps p.tables e below (T85.setTop (mkF m 37 #[.val (.int u0), .val (.int u1), .val (.int (1 : Int32)), .val (.int (0 : Int32)), .val (.ref aS), .val (.ref aC), .unset] [])) t → Steps p.tables e below (T85.setTop (mkF m 28 #[.val (.int u0), .val (.int u1), .val (.int (1 : Int32)), .val (.int (0 : Int32)), .val (.ref aS), .val (.ref aC), .unset] [(.int (4 : Int32)), (.int (0 : Int32))])) t := by
        intro t k
        show Steps p.tables e below (T85.setTop (mkF m 28 #[.val (.int u0), .val (.int u1), .val (.int (1 : Int32)), .val (.int (0 : Int32)), .val (.ref aS), .val (.ref aC), .unset] [(.int (4 : Int32)), (.int (0 : Int32))])) t
        refine XS.icmpYes X85.here hx rfl (pc0 := 28) (pc' := 37) rfl (hb hby at_28) rfl (feq (by decide)).2 (by decide) (by decide) ?_
        exact k
      refine OFin.go S87 ?_
      have S88 : ∀ t, Steps p.tables e below (T85.setTop (mkF m 39 #[.val (.int u0), .val (.int u1), .val (.int (1 : Int32)), .val (.int (0 : Int32)), .val (.ref aS), .val (.ref aC), .unset] [(.int (0 : Int32)), (.int (1 : Int32))])) t → Steps p.tables e below (T85.setTop (mkF m 37 #[.val (.int u0), .val (.int u1), .val (.int (1 : Int32)), .val (.int (0 : Int32)), .val (.ref aS), .val (.ref aC), .unset] [])) t := by
        intro t k
        show Steps p.tables e below (T85.setTop (mkF m 37 #[.val (.int u0), .val (.int u1), .val (.int (1 : Int32)), .val (.int (0 : Int32)), .val (.ref aS), .val (.ref aC), .unset] [])) t
        refine XS.iloadN X85.here hx rfl (hb hby at_37) rfl ?_
        show Steps p.tables e below (T85.setTop (mkF m 38 #[.val (.int u0), .val (.int u1), .val (.int (1 : Int32)), .val (.int (0 : Int32)), .val (.ref aS), .val (.ref aC), .unset] [(.int (1 : Int32))])) t
        refine XS.iloadN X85.here hx rfl (hb hby at_38) rfl ?_
        exact k
      refine OFin.go S88 ?_
      have S89 : ∀ t, Steps p.tables e below (T85.setTop (mkF m 48 #[.val (.int u0), .val (.int u1), .val (.int (1 : Int32)), .val (.int (0 : Int32)), .val (.ref aS), .val (.ref aC), .unset] [])) t → Steps p.tables e below (T85.setTop (mkF m 39 #[.val (.int u0), .val (.int u1), .val (.int (1 : Int32)), .val (.int (0 : Int32)), .val (.ref aS), .val (.ref aC), .unset] [(.int (0 : Int32)), (.int (1 : Int32))])) t := by
        intro t k
        show Steps p.tables e below (T85.setTop (mkF m 39 #[.val (.int u0), .val (.int u1), .val (.int (1 : Int32)), .val (.int (0 : Int32)), .val (.ref aS), .val (.ref aC), .unset] [(.int (0 : Int32)), (.int (1 : Int32))])) t
        refine XS.icmpYes X85.here hx rfl (pc0 := 39) (pc' := 48) rfl (hb hby at_39) rfl (feq (by decide)).2 (by decide) (by decide) ?_
        exact k
      refine OFin.go S89 ?_
      have S90 : ∀ t, Steps p.tables e below (T85.setTop (mkF m 49 #[.val (.int u0), .val (.int u1), .val (.int (1 : Int32)), .val (.int (0 : Int32)), .val (.ref aS), .val (.ref aC), .unset] [(.int (0 : Int32))])) t → Steps p.tables e below (T85.setTop (mkF m 48 #[.val (.int u0), .val (.int u1), .val (.int (1 : Int32)), .val (.int (0 : Int32)), .val (.ref aS), .val (.ref aC), .unset] [])) t := by
        intro t k
        show Steps p.tables e below (T85.setTop (mkF m 48 #[.val (.int u0), .val (.int u1), .val (.int (1 : Int32)), .val (.int (0 : Int32)), .val (.ref aS), .val (.ref aC), .unset] [])) t
        refine XS.iloadN X85.here hx rfl (hb hby at_48) rfl ?_
        exact k
      refine OFin.go S90 ?_
      have S91 : ∀ t, Steps p.tables e below (T85.setTop (mkF m 52 #[.val (.int u0), .val (.int u1), .val (.int (1 : Int32)), .val (.int (0 : Int32)), .val (.ref aS), .val (.ref aC), .unset] [])) t → Steps p.tables e below (T85.setTop (mkF m 49 #[.val (.int u0), .val (.int u1), .val (.int (1 : Int32)), .val (.int (0 : Int32)), .val (.ref aS), .val (.ref aC), .unset] [(.int (0 : Int32))])) t := by
        intro t k
        show Steps p.tables e below (T85.setTop (mkF m 49 #[.val (.int u0), .val (.int u1), .val (.int (1 : Int32)), .val (.int (0 : Int32)), .val (.ref aS), .val (.ref aC), .unset] [(.int (0 : Int32))])) t
        refine XS.ifNo X85.here hx rfl (hb hby at_49) rfl ((if0 _ _).trans (teq (by decide)).2) ?_
        exact k
      refine OFin.go S91 ?_
      have S92 : ∀ t, Steps p.tables e below (T85.setTop (mkF m 81 #[.val (.int u0), .val (.int u1), .val (.int (1 : Int32)), .val (.int (0 : Int32)), .val (.ref aS), .val (.ref aC), .val (.int (1 : Int32))] [(.ref aC), (.ref aS)])) t → Steps p.tables e below (T85.setTop (mkF m 52 #[.val (.int u0), .val (.int u1), .val (.int (1 : Int32)), .val (.int (0 : Int32)), .val (.ref aS), .val (.ref aC), .unset] [])) t := by
        intro t k
        show Steps p.tables e below (T85.setTop (mkF m 52 #[.val (.int u0), .val (.int u1), .val (.int (1 : Int32)), .val (.int (0 : Int32)), .val (.ref aS), .val (.ref aC), .unset] [])) t
        refine XS.iconst X85.here hx rfl (hb hby at_52) ?_
        show Steps p.tables e below (T85.setTop (mkF m 53 #[.val (.int u0), .val (.int u1), .val (.int (1 : Int32)), .val (.int (0 : Int32)), .val (.ref aS), .val (.ref aC), .unset] [(.int (1 : Int32))])) t
        refine XS.istore X85.here hx rfl (hb hby at_53) rfl (l' := #[.val (.int u0), .val (.int u1), .val (.int (1 : Int32)), .val (.int (0 : Int32)), .val (.ref aS), .val (.ref aC), .val (.int (1 : Int32))]) rfl ?_
        show Steps p.tables e below (T85.setTop (mkF m 55 #[.val (.int u0), .val (.int u1), .val (.int (1 : Int32)), .val (.int (0 : Int32)), .val (.ref aS), .val (.ref aC), .val (.int (1 : Int32))] [])) t
        refine XS.goto X85.here hx rfl (pc0 := 55) (pc' := 77) rfl (hb hby at_55) (by decide) (by decide) ?_
        show Steps p.tables e below (T85.setTop (mkF m 77 #[.val (.int u0), .val (.int u1), .val (.int (1 : Int32)), .val (.int (0 : Int32)), .val (.ref aS), .val (.ref aC), .val (.int (1 : Int32))] [])) t
        refine XS.aload X85.here hx rfl (hb hby at_77) rfl rfl ?_
        show Steps p.tables e below (T85.setTop (mkF m 79 #[.val (.int u0), .val (.int u1), .val (.int (1 : Int32)), .val (.int (0 : Int32)), .val (.ref aS), .val (.ref aC), .val (.int (1 : Int32))] [(.ref aS)])) t
        refine XS.aload X85.here hx rfl (hb hby at_79) rfl rfl ?_
        exact k
      refine OFin.go S92 ?_
      obtain ⟨_, T93, Lc93, X93, hQ93, st93⟩ := virtQ X85 hx hZ (y := (⟨"com/example/stowage/stowage/ip/Profile", "follows", "(Lcom/example/stowage/stowage/ip/Profile;)Z"⟩ : MethodName)) hown (hw _ (List.mem_of_getElem? (i := 10) rfl)) (hw _ (List.mem_of_getElem? (i := 12) rfl)) (hw _ (List.mem_of_getElem? (i := 6) rfl)) (hw _ (List.mem_of_getElem? (i := 14) rfl)) (hw _ (List.mem_of_getElem? (i := 11) rfl)) (hw _ (List.mem_of_getElem? (i := 13) rfl)) (by decide) EaS (argsL := [(.ref aC)]) (rest := []) (rm2_1_0 l Z a0 hw [] aC aS aT aA h0 n0 Z0 FaC FaS FaT FaA naCaS naCaT naCaA naSaT naSaA naTaA) (W := 0) (by decide) (by decide) e85 (g := (mkF m 81 #[.val (.int u0), .val (.int u1), .val (.int (1 : Int32)), .val (.int (0 : Int32)), .val (.ref aS), .val (.ref aC), .val (.int (1 : Int32))] [(.ref aC), (.ref aS)])) rfl (by rw [hml]; rfl) (lenOf pd_1 rfl) rfl (by show 2 * 0 + _ ≤ _; exact Nat.le_of_eq rfl) (hb hby at_81) (Nat.le_of_ble_eq_true rfl) (Nat.le_of_ble_eq_true rfl)
      obtain ⟨rfl, N93q, e93⟩ := hQ93
      have N93 := Fr.app N85 N93q
      refine OFin.go st93 ?_
      show OFin p e below _ (T93.setTop (mkF m 84 #[.val (.int u0), .val (.int u1), .val (.int (1 : Int32)), .val (.int (0 : Int32)), .val (.ref aS), .val (.ref aC), .val (.int (1 : Int32))] [(.int (1 : Int32))]))
      have S94 : ∀ t, Steps p.tables e below (T93.setTop (mkF m 86 #[.val (.int u0), .val (.int u1), .val (.int (1 : Int32)), .val (.int (0 : Int32)), .val (.ref aS), .val (.ref aC), .val (.int (1 : Int32))] [(.int (1 : Int32)), (.int (1 : Int32))])) t → Steps p.tables e below (T93.setTop (mkF m 84 #[.val (.int u0), .val (.int u1), .val (.int (1 : Int32)), .val (.int (0 : Int32)), .val (.ref aS), .val (.ref aC), .val (.int (1 : Int32))] [(.int (1 : Int32))])) t := by
        intro t k
        show Steps p.tables e below (T93.setTop (mkF m 84 #[.val (.int u0), .val (.int u1), .val (.int (1 : Int32)), .val (.int (0 : Int32)), .val (.ref aS), .val (.ref aC), .val (.int (1 : Int32))] [(.int (1 : Int32))])) t
        refine XS.iload X93.here hx rfl (hb hby at_84) rfl ?_
        exact k
      refine OFin.go S94 ?_
      have S95 : ∀ t, Steps p.tables e below (T93.setTop (mkF m 89 #[.val (.int u0), .val (.int u1), .val (.int (1 : Int32)), .val (.int (0 : Int32)), .val (.ref aS), .val (.ref aC), .val (.int (1 : Int32))] [])) t → Steps p.tables e below (T93.setTop (mkF m 86 #[.val (.int u0), .val (.int u1), .val (.int (1 : Int32)), .val (.int (0 : Int32)), .val (.ref aS), .val (.ref aC), .val (.int (1 : Int32))] [(.int (1 : Int32)), (.int (1 : Int32))])) t := by
        intro t k
        show Steps p.tables e below (T93.setTop (mkF m 86 #[.val (.int u0), .val (.int u1), .val (.int (1 : Int32)), .val (.int (0 : Int32)), .val (.ref aS), .val (.ref aC), .val (.int (1 : Int32))] [(.int (1 : Int32)), (.int (1 : Int32))])) t
        refine XS.icmpNo X93.here hx rfl (hb hby at_86) rfl (teq (by decide)).2 ?_
        exact k
      refine OFin.go S95 ?_
      have S96 : ∀ t, Steps p.tables e below (T93.setTop (mkF m 94 #[.val (.int u0), .val (.int u1), .val (.int (1 : Int32)), .val (.int (0 : Int32)), .val (.ref aS), .val (.ref aC), .val (.int (1 : Int32))] [(.int (1 : Int32))])) t → Steps p.tables e below (T93.setTop (mkF m 89 #[.val (.int u0), .val (.int u1), .val (.int (1 : Int32)), .val (.int (0 : Int32)), .val (.ref aS), .val (.ref aC), .val (.int (1 : Int32))] [])) t := by
        intro t k
        show Steps p.tables e below (T93.setTop (mkF m 89 #[.val (.int u0), .val (.int u1), .val (.int (1 : Int32)), .val (.int (0 : Int32)), .val (.ref aS), .val (.ref aC), .val (.int (1 : Int32))] [])) t
        refine XS.iconst X93.here hx rfl (hb hby at_89) ?_
        show Steps p.tables e below (T93.setTop (mkF m 90 #[.val (.int u0), .val (.int u1), .val (.int (1 : Int32)), .val (.int (0 : Int32)), .val (.ref aS), .val (.ref aC), .val (.int (1 : Int32))] [(.int (1 : Int32))])) t
        refine XS.goto X93.here hx rfl (pc0 := 90) (pc' := 94) rfl (hb hby at_90) (by decide) (by decide) ?_
        exact k
      refine OFin.go S96 ?_
      exact finZ X93 hx Bd.notSynchronized (t := .boolean) Bd.returns (by simp) (hb hby at_94) rfl (by decide) (by decide) (⟨congrArg (fun z => some (Value.int z)) (rfl : (1 : Int32) = (1 : Int32)), N93⟩)
    ·
      subst hkk81'
      show OFin p e below _ (s₁.setTop (mkF m 14 #[.val (.int u0), .val (.int u1), .val (.int (1 : Int32)), .val (.int (1 : Int32)), .unset, .unset, .unset] []))
      have S97 : ∀ t, Steps p.tables e below (s₁.setTop (mkF m 15 #[.val (.int u0), .val (.int u1), .val (.int (1 : Int32)), .val (.int (1 : Int32)), .unset, .unset, .unset] [(.int (1 : Int32))])) t → Steps p.tables e below (s₁.setTop (mkF m 14 #[.val (.int u0), .val (.int u1), .val (.int (1 : Int32)), .val (.int (1 : Int32)), .unset, .unset, .unset] [])) t := by
        intro t k
        show Steps p.tables e below (s₁.setTop (mkF m 14 #[.val (.int u0), .val (.int u1), .val (.int (1 : Int32)), .val (.int (1 : Int32)), .unset, .unset, .unset] [])) t
        refine XS.iloadN X0.here hx rfl (hb hby at_14) rfl ?_
        exact k
      refine OFin.go S97 ?_
      obtain ⟨_, T98, Lc98, X98, hQ98, st98⟩ := callQ X0 hx hZ (y := (⟨"com/example/stowage/stowage/ip/ProfileFollowsPinLaw", "pick", "(I)Lcom/example/stowage/stowage/ip/Profile;"⟩ : MethodName)) hown (hw _ (List.mem_of_getElem? (i := 1) rfl)) (hw _ (List.mem_of_getElem? (i := 2) rfl)) (hw _ (List.mem_of_getElem? (i := 3) rfl)) (hw _ (List.mem_of_getElem? (i := 4) rfl)) (by decide) (argsL := [(.int (1 : Int32))]) (rest := []) (rm1 l Z a0 hw [] (1 : Int32) aC aS aT aA h0 n0 Z0 SaC SaS SaT SaA) (W := 0) (by decide) (by decide) e0 (g := (mkF m 15 #[.val (.int u0), .val (.int u1), .val (.int (1 : Int32)), .val (.int (1 : Int32)), .unset, .unset, .unset] [(.int (1 : Int32))])) rfl (by rw [hml]; rfl) (lenOf pd_0 rfl) rfl (by show 2 * 0 + _ ≤ _; exact Nat.le_of_eq rfl) (hb hby at_15) (Nat.le_of_ble_eq_true rfl) (Nat.le_of_ble_eq_true rfl)
      obtain ⟨rfl, N98q, e98⟩ := hQ98
      have N98 := Fr.app N0 N98q
      refine OFin.go st98 ?_
      show OFin p e below _ (T98.setTop (mkF m 18 #[.val (.int u0), .val (.int u1), .val (.int (1 : Int32)), .val (.int (1 : Int32)), .unset, .unset, .unset] [(.ref aS)]))
      have S99 : ∀ t, Steps p.tables e below (T98.setTop (mkF m 21 #[.val (.int u0), .val (.int u1), .val (.int (1 : Int32)), .val (.int (1 : Int32)), .val (.ref aS), .unset, .unset] [(.int (1 : Int32))])) t → Steps p.tables e below (T98.setTop (mkF m 18 #[.val (.int u0), .val (.int u1), .val (.int (1 : Int32)), .val (.int (1 : Int32)), .unset, .unset, .unset] [(.ref aS)])) t := by
        intro t k
        show Steps p.tables e below (T98.setTop (mkF m 18 #[.val (.int u0), .val (.int u1), .val (.int (1 : Int32)), .val (.int (1 : Int32)), .unset, .unset, .unset] [(.ref aS)])) t
        refine XS.astore X98.here hx rfl (hb hby at_18) rfl rfl (l' := #[.val (.int u0), .val (.int u1), .val (.int (1 : Int32)), .val (.int (1 : Int32)), .val (.ref aS), .unset, .unset]) rfl ?_
        show Steps p.tables e below (T98.setTop (mkF m 20 #[.val (.int u0), .val (.int u1), .val (.int (1 : Int32)), .val (.int (1 : Int32)), .val (.ref aS), .unset, .unset] [])) t
        refine XS.iloadN X98.here hx rfl (hb hby at_20) rfl ?_
        exact k
      refine OFin.go S99 ?_
      obtain ⟨_, T100, Lc100, X100, hQ100, st100⟩ := callQ X98 hx hZ (y := (⟨"com/example/stowage/stowage/ip/ProfileFollowsPinLaw", "pick", "(I)Lcom/example/stowage/stowage/ip/Profile;"⟩ : MethodName)) hown (hw _ (List.mem_of_getElem? (i := 1) rfl)) (hw _ (List.mem_of_getElem? (i := 2) rfl)) (hw _ (List.mem_of_getElem? (i := 3) rfl)) (hw _ (List.mem_of_getElem? (i := 4) rfl)) (by decide) (argsL := [(.int (1 : Int32))]) (rest := []) (rm1 l Z a0 hw [] (1 : Int32) aC aS aT aA h0 n0 Z0 SaC SaS SaT SaA) (W := 0) (by decide) (by decide) e98 (g := (mkF m 21 #[.val (.int u0), .val (.int u1), .val (.int (1 : Int32)), .val (.int (1 : Int32)), .val (.ref aS), .unset, .unset] [(.int (1 : Int32))])) rfl (by rw [hml]; rfl) (lenOf pd_0 rfl) rfl (by show 2 * 0 + _ ≤ _; exact Nat.le_of_eq rfl) (hb hby at_21) (Nat.le_of_ble_eq_true rfl) (Nat.le_of_ble_eq_true rfl)
      obtain ⟨rfl, N100q, e100⟩ := hQ100
      have N100 := Fr.app N98 N100q
      refine OFin.go st100 ?_
      show OFin p e below _ (T100.setTop (mkF m 24 #[.val (.int u0), .val (.int u1), .val (.int (1 : Int32)), .val (.int (1 : Int32)), .val (.ref aS), .unset, .unset] [(.ref aS)]))
      have S101 : ∀ t, Steps p.tables e below (T100.setTop (mkF m 28 #[.val (.int u0), .val (.int u1), .val (.int (1 : Int32)), .val (.int (1 : Int32)), .val (.ref aS), .val (.ref aS), .unset] [(.int (4 : Int32)), (.int (1 : Int32))])) t → Steps p.tables e below (T100.setTop (mkF m 24 #[.val (.int u0), .val (.int u1), .val (.int (1 : Int32)), .val (.int (1 : Int32)), .val (.ref aS), .unset, .unset] [(.ref aS)])) t := by
        intro t k
        show Steps p.tables e below (T100.setTop (mkF m 24 #[.val (.int u0), .val (.int u1), .val (.int (1 : Int32)), .val (.int (1 : Int32)), .val (.ref aS), .unset, .unset] [(.ref aS)])) t
        refine XS.astore X100.here hx rfl (hb hby at_24) rfl rfl (l' := #[.val (.int u0), .val (.int u1), .val (.int (1 : Int32)), .val (.int (1 : Int32)), .val (.ref aS), .val (.ref aS), .unset]) rfl ?_
        show Steps p.tables e below (T100.setTop (mkF m 26 #[.val (.int u0), .val (.int u1), .val (.int (1 : Int32)), .val (.int (1 : Int32)), .val (.ref aS), .val (.ref aS), .unset] [])) t
        refine XS.iloadN X100.here hx rfl (hb hby at_26) rfl ?_
        show Steps p.tables e below (T100.setTop (mkF m 27 #[.val (.int u0), .val (.int u1), .val (.int (1 : Int32)), .val (.int (1 : Int32)), .val (.ref aS), .val (.ref aS), .unset] [(.int (1 : Int32))])) t
        refine XS.iconst X100.here hx rfl (hb hby at_27) ?_
        exact k
      refine OFin.go S101 ?_
      have S102 : ∀ t, Steps p.tables e below (T100.setTop (mkF m 37 #[.val (.int u0), .val (.int u1), .val (.int (1 : Int32)), .val (.int (1 : Int32)), .val (.ref aS), .val (.ref aS), .unset] [])) t → Steps p.tables e below (T100.setTop (mkF m 28 #[.val (.int u0), .val (.int u1), .val (.int (1 : Int32)), .val (.int (1 : Int32)), .val (.ref aS), .val (.ref aS), .unset] [(.int (4 : Int32)), (.int (1 : Int32))])) t := by
        intro t k
        show Steps p.tables e below (T100.setTop (mkF m 28 #[.val (.int u0), .val (.int u1), .val (.int (1 : Int32)), .val (.int (1 : Int32)), .val (.ref aS), .val (.ref aS), .unset] [(.int (4 : Int32)), (.int (1 : Int32))])) t
        refine XS.icmpYes X100.here hx rfl (pc0 := 28) (pc' := 37) rfl (hb hby at_28) rfl (feq (by decide)).2 (by decide) (by decide) ?_
        exact k
      refine OFin.go S102 ?_
      have S103 : ∀ t, Steps p.tables e below (T100.setTop (mkF m 39 #[.val (.int u0), .val (.int u1), .val (.int (1 : Int32)), .val (.int (1 : Int32)), .val (.ref aS), .val (.ref aS), .unset] [(.int (1 : Int32)), (.int (1 : Int32))])) t → Steps p.tables e below (T100.setTop (mkF m 37 #[.val (.int u0), .val (.int u1), .val (.int (1 : Int32)), .val (.int (1 : Int32)), .val (.ref aS), .val (.ref aS), .unset] [])) t := by
        intro t k
        show Steps p.tables e below (T100.setTop (mkF m 37 #[.val (.int u0), .val (.int u1), .val (.int (1 : Int32)), .val (.int (1 : Int32)), .val (.ref aS), .val (.ref aS), .unset] [])) t
        refine XS.iloadN X100.here hx rfl (hb hby at_37) rfl ?_
        show Steps p.tables e below (T100.setTop (mkF m 38 #[.val (.int u0), .val (.int u1), .val (.int (1 : Int32)), .val (.int (1 : Int32)), .val (.ref aS), .val (.ref aS), .unset] [(.int (1 : Int32))])) t
        refine XS.iloadN X100.here hx rfl (hb hby at_38) rfl ?_
        exact k
      refine OFin.go S103 ?_
      have S104 : ∀ t, Steps p.tables e below (T100.setTop (mkF m 42 #[.val (.int u0), .val (.int u1), .val (.int (1 : Int32)), .val (.int (1 : Int32)), .val (.ref aS), .val (.ref aS), .unset] [])) t → Steps p.tables e below (T100.setTop (mkF m 39 #[.val (.int u0), .val (.int u1), .val (.int (1 : Int32)), .val (.int (1 : Int32)), .val (.ref aS), .val (.ref aS), .unset] [(.int (1 : Int32)), (.int (1 : Int32))])) t := by
        intro t k
        show Steps p.tables e below (T100.setTop (mkF m 39 #[.val (.int u0), .val (.int u1), .val (.int (1 : Int32)), .val (.int (1 : Int32)), .val (.ref aS), .val (.ref aS), .unset] [(.int (1 : Int32)), (.int (1 : Int32))])) t
        refine XS.icmpNo X100.here hx rfl (hb hby at_39) rfl (teq (by decide)).2 ?_
        exact k
      refine OFin.go S104 ?_
      have S105 : ∀ t, Steps p.tables e below (T100.setTop (mkF m 81 #[.val (.int u0), .val (.int u1), .val (.int (1 : Int32)), .val (.int (1 : Int32)), .val (.ref aS), .val (.ref aS), .val (.int (1 : Int32))] [(.ref aS), (.ref aS)])) t → Steps p.tables e below (T100.setTop (mkF m 42 #[.val (.int u0), .val (.int u1), .val (.int (1 : Int32)), .val (.int (1 : Int32)), .val (.ref aS), .val (.ref aS), .unset] [])) t := by
        intro t k
        show Steps p.tables e below (T100.setTop (mkF m 42 #[.val (.int u0), .val (.int u1), .val (.int (1 : Int32)), .val (.int (1 : Int32)), .val (.ref aS), .val (.ref aS), .unset] [])) t
        refine XS.iconst X100.here hx rfl (hb hby at_42) ?_
        show Steps p.tables e below (T100.setTop (mkF m 43 #[.val (.int u0), .val (.int u1), .val (.int (1 : Int32)), .val (.int (1 : Int32)), .val (.ref aS), .val (.ref aS), .unset] [(.int (1 : Int32))])) t
        refine XS.istore X100.here hx rfl (hb hby at_43) rfl (l' := #[.val (.int u0), .val (.int u1), .val (.int (1 : Int32)), .val (.int (1 : Int32)), .val (.ref aS), .val (.ref aS), .val (.int (1 : Int32))]) rfl ?_
        show Steps p.tables e below (T100.setTop (mkF m 45 #[.val (.int u0), .val (.int u1), .val (.int (1 : Int32)), .val (.int (1 : Int32)), .val (.ref aS), .val (.ref aS), .val (.int (1 : Int32))] [])) t
        refine XS.goto X100.here hx rfl (pc0 := 45) (pc' := 77) rfl (hb hby at_45) (by decide) (by decide) ?_
        show Steps p.tables e below (T100.setTop (mkF m 77 #[.val (.int u0), .val (.int u1), .val (.int (1 : Int32)), .val (.int (1 : Int32)), .val (.ref aS), .val (.ref aS), .val (.int (1 : Int32))] [])) t
        refine XS.aload X100.here hx rfl (hb hby at_77) rfl rfl ?_
        show Steps p.tables e below (T100.setTop (mkF m 79 #[.val (.int u0), .val (.int u1), .val (.int (1 : Int32)), .val (.int (1 : Int32)), .val (.ref aS), .val (.ref aS), .val (.int (1 : Int32))] [(.ref aS)])) t
        refine XS.aload X100.here hx rfl (hb hby at_79) rfl rfl ?_
        exact k
      refine OFin.go S105 ?_
      obtain ⟨_, T106, Lc106, X106, hQ106, st106⟩ := virtQ X100 hx hZ (y := (⟨"com/example/stowage/stowage/ip/Profile", "follows", "(Lcom/example/stowage/stowage/ip/Profile;)Z"⟩ : MethodName)) hown (hw _ (List.mem_of_getElem? (i := 10) rfl)) (hw _ (List.mem_of_getElem? (i := 12) rfl)) (hw _ (List.mem_of_getElem? (i := 6) rfl)) (hw _ (List.mem_of_getElem? (i := 14) rfl)) (hw _ (List.mem_of_getElem? (i := 11) rfl)) (hw _ (List.mem_of_getElem? (i := 13) rfl)) (by decide) EaS (argsL := [(.ref aS)]) (rest := []) (rm2_1_1 l Z a0 hw [] aC aS aT aA h0 n0 Z0 FaC FaS FaT FaA naCaS naCaT naCaA naSaT naSaA naTaA) (W := 0) (by decide) (by decide) e100 (g := (mkF m 81 #[.val (.int u0), .val (.int u1), .val (.int (1 : Int32)), .val (.int (1 : Int32)), .val (.ref aS), .val (.ref aS), .val (.int (1 : Int32))] [(.ref aS), (.ref aS)])) rfl (by rw [hml]; rfl) (lenOf pd_1 rfl) rfl (by show 2 * 0 + _ ≤ _; exact Nat.le_of_eq rfl) (hb hby at_81) (Nat.le_of_ble_eq_true rfl) (Nat.le_of_ble_eq_true rfl)
      obtain ⟨rfl, N106q, e106⟩ := hQ106
      have N106 := Fr.app N100 N106q
      refine OFin.go st106 ?_
      show OFin p e below _ (T106.setTop (mkF m 84 #[.val (.int u0), .val (.int u1), .val (.int (1 : Int32)), .val (.int (1 : Int32)), .val (.ref aS), .val (.ref aS), .val (.int (1 : Int32))] [(.int (1 : Int32))]))
      have S107 : ∀ t, Steps p.tables e below (T106.setTop (mkF m 86 #[.val (.int u0), .val (.int u1), .val (.int (1 : Int32)), .val (.int (1 : Int32)), .val (.ref aS), .val (.ref aS), .val (.int (1 : Int32))] [(.int (1 : Int32)), (.int (1 : Int32))])) t → Steps p.tables e below (T106.setTop (mkF m 84 #[.val (.int u0), .val (.int u1), .val (.int (1 : Int32)), .val (.int (1 : Int32)), .val (.ref aS), .val (.ref aS), .val (.int (1 : Int32))] [(.int (1 : Int32))])) t := by
        intro t k
        show Steps p.tables e below (T106.setTop (mkF m 84 #[.val (.int u0), .val (.int u1), .val (.int (1 : Int32)), .val (.int (1 : Int32)), .val (.ref aS), .val (.ref aS), .val (.int (1 : Int32))] [(.int (1 : Int32))])) t
        refine XS.iload X106.here hx rfl (hb hby at_84) rfl ?_
        exact k
      refine OFin.go S107 ?_
      have S108 : ∀ t, Steps p.tables e below (T106.setTop (mkF m 89 #[.val (.int u0), .val (.int u1), .val (.int (1 : Int32)), .val (.int (1 : Int32)), .val (.ref aS), .val (.ref aS), .val (.int (1 : Int32))] [])) t → Steps p.tables e below (T106.setTop (mkF m 86 #[.val (.int u0), .val (.int u1), .val (.int (1 : Int32)), .val (.int (1 : Int32)), .val (.ref aS), .val (.ref aS), .val (.int (1 : Int32))] [(.int (1 : Int32)), (.int (1 : Int32))])) t := by
        intro t k
        show Steps p.tables e below (T106.setTop (mkF m 86 #[.val (.int u0), .val (.int u1), .val (.int (1 : Int32)), .val (.int (1 : Int32)), .val (.ref aS), .val (.ref aS), .val (.int (1 : Int32))] [(.int (1 : Int32)), (.int (1 : Int32))])) t
        refine XS.icmpNo X106.here hx rfl (hb hby at_86) rfl (teq (by decide)).2 ?_
        exact k
      refine OFin.go S108 ?_
      have S109 : ∀ t, Steps p.tables e below (T106.setTop (mkF m 94 #[.val (.int u0), .val (.int u1), .val (.int (1 : Int32)), .val (.int (1 : Int32)), .val (.ref aS), .val (.ref aS), .val (.int (1 : Int32))] [(.int (1 : Int32))])) t → Steps p.tables e below (T106.setTop (mkF m 89 #[.val (.int u0), .val (.int u1), .val (.int (1 : Int32)), .val (.int (1 : Int32)), .val (.ref aS), .val (.ref aS), .val (.int (1 : Int32))] [])) t := by
        intro t k
        show Steps p.tables e below (T106.setTop (mkF m 89 #[.val (.int u0), .val (.int u1), .val (.int (1 : Int32)), .val (.int (1 : Int32)), .val (.ref aS), .val (.ref aS), .val (.int (1 : Int32))] [])) t
        refine XS.iconst X106.here hx rfl (hb hby at_89) ?_
        show Steps p.tables e below (T106.setTop (mkF m 90 #[.val (.int u0), .val (.int u1), .val (.int (1 : Int32)), .val (.int (1 : Int32)), .val (.ref aS), .val (.ref aS), .val (.int (1 : Int32))] [(.int (1 : Int32))])) t
        refine XS.goto X106.here hx rfl (pc0 := 90) (pc' := 94) rfl (hb hby at_90) (by decide) (by decide) ?_
        exact k
      refine OFin.go S109 ?_
      exact finZ X106 hx Bd.notSynchronized (t := .boolean) Bd.returns (by simp) (hb hby at_94) rfl (by decide) (by decide) (⟨congrArg (fun z => some (Value.int z)) (rfl : (1 : Int32) = (1 : Int32)), N106⟩)
    ·
      subst hkk81'
      show OFin p e below _ (s₁.setTop (mkF m 14 #[.val (.int u0), .val (.int u1), .val (.int (1 : Int32)), .val (.int (2 : Int32)), .unset, .unset, .unset] []))
      have S110 : ∀ t, Steps p.tables e below (s₁.setTop (mkF m 15 #[.val (.int u0), .val (.int u1), .val (.int (1 : Int32)), .val (.int (2 : Int32)), .unset, .unset, .unset] [(.int (1 : Int32))])) t → Steps p.tables e below (s₁.setTop (mkF m 14 #[.val (.int u0), .val (.int u1), .val (.int (1 : Int32)), .val (.int (2 : Int32)), .unset, .unset, .unset] [])) t := by
        intro t k
        show Steps p.tables e below (s₁.setTop (mkF m 14 #[.val (.int u0), .val (.int u1), .val (.int (1 : Int32)), .val (.int (2 : Int32)), .unset, .unset, .unset] [])) t
        refine XS.iloadN X0.here hx rfl (hb hby at_14) rfl ?_
        exact k
      refine OFin.go S110 ?_
      obtain ⟨_, T111, Lc111, X111, hQ111, st111⟩ := callQ X0 hx hZ (y := (⟨"com/example/stowage/stowage/ip/ProfileFollowsPinLaw", "pick", "(I)Lcom/example/stowage/stowage/ip/Profile;"⟩ : MethodName)) hown (hw _ (List.mem_of_getElem? (i := 1) rfl)) (hw _ (List.mem_of_getElem? (i := 2) rfl)) (hw _ (List.mem_of_getElem? (i := 3) rfl)) (hw _ (List.mem_of_getElem? (i := 4) rfl)) (by decide) (argsL := [(.int (1 : Int32))]) (rest := []) (rm1 l Z a0 hw [] (1 : Int32) aC aS aT aA h0 n0 Z0 SaC SaS SaT SaA) (W := 0) (by decide) (by decide) e0 (g := (mkF m 15 #[.val (.int u0), .val (.int u1), .val (.int (1 : Int32)), .val (.int (2 : Int32)), .unset, .unset, .unset] [(.int (1 : Int32))])) rfl (by rw [hml]; rfl) (lenOf pd_0 rfl) rfl (by show 2 * 0 + _ ≤ _; exact Nat.le_of_eq rfl) (hb hby at_15) (Nat.le_of_ble_eq_true rfl) (Nat.le_of_ble_eq_true rfl)
      obtain ⟨rfl, N111q, e111⟩ := hQ111
      have N111 := Fr.app N0 N111q
      refine OFin.go st111 ?_
      show OFin p e below _ (T111.setTop (mkF m 18 #[.val (.int u0), .val (.int u1), .val (.int (1 : Int32)), .val (.int (2 : Int32)), .unset, .unset, .unset] [(.ref aS)]))
      have S112 : ∀ t, Steps p.tables e below (T111.setTop (mkF m 21 #[.val (.int u0), .val (.int u1), .val (.int (1 : Int32)), .val (.int (2 : Int32)), .val (.ref aS), .unset, .unset] [(.int (2 : Int32))])) t → Steps p.tables e below (T111.setTop (mkF m 18 #[.val (.int u0), .val (.int u1), .val (.int (1 : Int32)), .val (.int (2 : Int32)), .unset, .unset, .unset] [(.ref aS)])) t := by
        intro t k
        show Steps p.tables e below (T111.setTop (mkF m 18 #[.val (.int u0), .val (.int u1), .val (.int (1 : Int32)), .val (.int (2 : Int32)), .unset, .unset, .unset] [(.ref aS)])) t
        refine XS.astore X111.here hx rfl (hb hby at_18) rfl rfl (l' := #[.val (.int u0), .val (.int u1), .val (.int (1 : Int32)), .val (.int (2 : Int32)), .val (.ref aS), .unset, .unset]) rfl ?_
        show Steps p.tables e below (T111.setTop (mkF m 20 #[.val (.int u0), .val (.int u1), .val (.int (1 : Int32)), .val (.int (2 : Int32)), .val (.ref aS), .unset, .unset] [])) t
        refine XS.iloadN X111.here hx rfl (hb hby at_20) rfl ?_
        exact k
      refine OFin.go S112 ?_
      obtain ⟨_, T113, Lc113, X113, hQ113, st113⟩ := callQ X111 hx hZ (y := (⟨"com/example/stowage/stowage/ip/ProfileFollowsPinLaw", "pick", "(I)Lcom/example/stowage/stowage/ip/Profile;"⟩ : MethodName)) hown (hw _ (List.mem_of_getElem? (i := 1) rfl)) (hw _ (List.mem_of_getElem? (i := 2) rfl)) (hw _ (List.mem_of_getElem? (i := 3) rfl)) (hw _ (List.mem_of_getElem? (i := 4) rfl)) (by decide) (argsL := [(.int (2 : Int32))]) (rest := []) (rm1 l Z a0 hw [] (2 : Int32) aC aS aT aA h0 n0 Z0 SaC SaS SaT SaA) (W := 0) (by decide) (by decide) e111 (g := (mkF m 21 #[.val (.int u0), .val (.int u1), .val (.int (1 : Int32)), .val (.int (2 : Int32)), .val (.ref aS), .unset, .unset] [(.int (2 : Int32))])) rfl (by rw [hml]; rfl) (lenOf pd_0 rfl) rfl (by show 2 * 0 + _ ≤ _; exact Nat.le_of_eq rfl) (hb hby at_21) (Nat.le_of_ble_eq_true rfl) (Nat.le_of_ble_eq_true rfl)
      obtain ⟨rfl, N113q, e113⟩ := hQ113
      have N113 := Fr.app N111 N113q
      refine OFin.go st113 ?_
      show OFin p e below _ (T113.setTop (mkF m 24 #[.val (.int u0), .val (.int u1), .val (.int (1 : Int32)), .val (.int (2 : Int32)), .val (.ref aS), .unset, .unset] [(.ref aT)]))
      have S114 : ∀ t, Steps p.tables e below (T113.setTop (mkF m 28 #[.val (.int u0), .val (.int u1), .val (.int (1 : Int32)), .val (.int (2 : Int32)), .val (.ref aS), .val (.ref aT), .unset] [(.int (4 : Int32)), (.int (2 : Int32))])) t → Steps p.tables e below (T113.setTop (mkF m 24 #[.val (.int u0), .val (.int u1), .val (.int (1 : Int32)), .val (.int (2 : Int32)), .val (.ref aS), .unset, .unset] [(.ref aT)])) t := by
        intro t k
        show Steps p.tables e below (T113.setTop (mkF m 24 #[.val (.int u0), .val (.int u1), .val (.int (1 : Int32)), .val (.int (2 : Int32)), .val (.ref aS), .unset, .unset] [(.ref aT)])) t
        refine XS.astore X113.here hx rfl (hb hby at_24) rfl rfl (l' := #[.val (.int u0), .val (.int u1), .val (.int (1 : Int32)), .val (.int (2 : Int32)), .val (.ref aS), .val (.ref aT), .unset]) rfl ?_
        show Steps p.tables e below (T113.setTop (mkF m 26 #[.val (.int u0), .val (.int u1), .val (.int (1 : Int32)), .val (.int (2 : Int32)), .val (.ref aS), .val (.ref aT), .unset] [])) t
        refine XS.iloadN X113.here hx rfl (hb hby at_26) rfl ?_
        show Steps p.tables e below (T113.setTop (mkF m 27 #[.val (.int u0), .val (.int u1), .val (.int (1 : Int32)), .val (.int (2 : Int32)), .val (.ref aS), .val (.ref aT), .unset] [(.int (2 : Int32))])) t
        refine XS.iconst X113.here hx rfl (hb hby at_27) ?_
        exact k
      refine OFin.go S114 ?_
      have S115 : ∀ t, Steps p.tables e below (T113.setTop (mkF m 37 #[.val (.int u0), .val (.int u1), .val (.int (1 : Int32)), .val (.int (2 : Int32)), .val (.ref aS), .val (.ref aT), .unset] [])) t → Steps p.tables e below (T113.setTop (mkF m 28 #[.val (.int u0), .val (.int u1), .val (.int (1 : Int32)), .val (.int (2 : Int32)), .val (.ref aS), .val (.ref aT), .unset] [(.int (4 : Int32)), (.int (2 : Int32))])) t := by
        intro t k
        show Steps p.tables e below (T113.setTop (mkF m 28 #[.val (.int u0), .val (.int u1), .val (.int (1 : Int32)), .val (.int (2 : Int32)), .val (.ref aS), .val (.ref aT), .unset] [(.int (4 : Int32)), (.int (2 : Int32))])) t
        refine XS.icmpYes X113.here hx rfl (pc0 := 28) (pc' := 37) rfl (hb hby at_28) rfl (feq (by decide)).2 (by decide) (by decide) ?_
        exact k
      refine OFin.go S115 ?_
      have S116 : ∀ t, Steps p.tables e below (T113.setTop (mkF m 39 #[.val (.int u0), .val (.int u1), .val (.int (1 : Int32)), .val (.int (2 : Int32)), .val (.ref aS), .val (.ref aT), .unset] [(.int (2 : Int32)), (.int (1 : Int32))])) t → Steps p.tables e below (T113.setTop (mkF m 37 #[.val (.int u0), .val (.int u1), .val (.int (1 : Int32)), .val (.int (2 : Int32)), .val (.ref aS), .val (.ref aT), .unset] [])) t := by
        intro t k
        show Steps p.tables e below (T113.setTop (mkF m 37 #[.val (.int u0), .val (.int u1), .val (.int (1 : Int32)), .val (.int (2 : Int32)), .val (.ref aS), .val (.ref aT), .unset] [])) t
        refine XS.iloadN X113.here hx rfl (hb hby at_37) rfl ?_
        show Steps p.tables e below (T113.setTop (mkF m 38 #[.val (.int u0), .val (.int u1), .val (.int (1 : Int32)), .val (.int (2 : Int32)), .val (.ref aS), .val (.ref aT), .unset] [(.int (1 : Int32))])) t
        refine XS.iloadN X113.here hx rfl (hb hby at_38) rfl ?_
        exact k
      refine OFin.go S116 ?_
      have S117 : ∀ t, Steps p.tables e below (T113.setTop (mkF m 48 #[.val (.int u0), .val (.int u1), .val (.int (1 : Int32)), .val (.int (2 : Int32)), .val (.ref aS), .val (.ref aT), .unset] [])) t → Steps p.tables e below (T113.setTop (mkF m 39 #[.val (.int u0), .val (.int u1), .val (.int (1 : Int32)), .val (.int (2 : Int32)), .val (.ref aS), .val (.ref aT), .unset] [(.int (2 : Int32)), (.int (1 : Int32))])) t := by
        intro t k
        show Steps p.tables e below (T113.setTop (mkF m 39 #[.val (.int u0), .val (.int u1), .val (.int (1 : Int32)), .val (.int (2 : Int32)), .val (.ref aS), .val (.ref aT), .unset] [(.int (2 : Int32)), (.int (1 : Int32))])) t
        refine XS.icmpYes X113.here hx rfl (pc0 := 39) (pc' := 48) rfl (hb hby at_39) rfl (feq (by decide)).2 (by decide) (by decide) ?_
        exact k
      refine OFin.go S117 ?_
      have S118 : ∀ t, Steps p.tables e below (T113.setTop (mkF m 49 #[.val (.int u0), .val (.int u1), .val (.int (1 : Int32)), .val (.int (2 : Int32)), .val (.ref aS), .val (.ref aT), .unset] [(.int (2 : Int32))])) t → Steps p.tables e below (T113.setTop (mkF m 48 #[.val (.int u0), .val (.int u1), .val (.int (1 : Int32)), .val (.int (2 : Int32)), .val (.ref aS), .val (.ref aT), .unset] [])) t := by
        intro t k
        show Steps p.tables e below (T113.setTop (mkF m 48 #[.val (.int u0), .val (.int u1), .val (.int (1 : Int32)), .val (.int (2 : Int32)), .val (.ref aS), .val (.ref aT), .unset] [])) t
        refine XS.iloadN X113.here hx rfl (hb hby at_48) rfl ?_
        exact k
      refine OFin.go S118 ?_
      have S119 : ∀ t, Steps p.tables e below (T113.setTop (mkF m 58 #[.val (.int u0), .val (.int u1), .val (.int (1 : Int32)), .val (.int (2 : Int32)), .val (.ref aS), .val (.ref aT), .unset] [])) t → Steps p.tables e below (T113.setTop (mkF m 49 #[.val (.int u0), .val (.int u1), .val (.int (1 : Int32)), .val (.int (2 : Int32)), .val (.ref aS), .val (.ref aT), .unset] [(.int (2 : Int32))])) t := by
        intro t k
        show Steps p.tables e below (T113.setTop (mkF m 49 #[.val (.int u0), .val (.int u1), .val (.int (1 : Int32)), .val (.int (2 : Int32)), .val (.ref aS), .val (.ref aT), .unset] [(.int (2 : Int32))])) t
        refine XS.ifYes X113.here hx rfl (pc0 := 49) (pc' := 58) rfl (hb hby at_49) rfl ((if0 _ _).trans (feq (by decide)).2) (by decide) (by decide) ?_
        exact k
      refine OFin.go S119 ?_
      have S120 : ∀ t, Steps p.tables e below (T113.setTop (mkF m 60 #[.val (.int u0), .val (.int u1), .val (.int (1 : Int32)), .val (.int (2 : Int32)), .val (.ref aS), .val (.ref aT), .unset] [(.int (2 : Int32)), (.int (1 : Int32))])) t → Steps p.tables e below (T113.setTop (mkF m 58 #[.val (.int u0), .val (.int u1), .val (.int (1 : Int32)), .val (.int (2 : Int32)), .val (.ref aS), .val (.ref aT), .unset] [])) t := by
        intro t k
        show Steps p.tables e below (T113.setTop (mkF m 58 #[.val (.int u0), .val (.int u1), .val (.int (1 : Int32)), .val (.int (2 : Int32)), .val (.ref aS), .val (.ref aT), .unset] [])) t
        refine XS.iloadN X113.here hx rfl (hb hby at_58) rfl ?_
        show Steps p.tables e below (T113.setTop (mkF m 59 #[.val (.int u0), .val (.int u1), .val (.int (1 : Int32)), .val (.int (2 : Int32)), .val (.ref aS), .val (.ref aT), .unset] [(.int (1 : Int32))])) t
        refine XS.iconst X113.here hx rfl (hb hby at_59) ?_
        exact k
      refine OFin.go S120 ?_
      have S121 : ∀ t, Steps p.tables e below (T113.setTop (mkF m 74 #[.val (.int u0), .val (.int u1), .val (.int (1 : Int32)), .val (.int (2 : Int32)), .val (.ref aS), .val (.ref aT), .unset] [])) t → Steps p.tables e below (T113.setTop (mkF m 60 #[.val (.int u0), .val (.int u1), .val (.int (1 : Int32)), .val (.int (2 : Int32)), .val (.ref aS), .val (.ref aT), .unset] [(.int (2 : Int32)), (.int (1 : Int32))])) t := by
        intro t k
        show Steps p.tables e below (T113.setTop (mkF m 60 #[.val (.int u0), .val (.int u1), .val (.int (1 : Int32)), .val (.int (2 : Int32)), .val (.ref aS), .val (.ref aT), .unset] [(.int (2 : Int32)), (.int (1 : Int32))])) t
        refine XS.icmpYes X113.here hx rfl (pc0 := 60) (pc' := 74) rfl (hb hby at_60) rfl (feq (by decide)).2 (by decide) (by decide) ?_
        exact k
      refine OFin.go S121 ?_
      have S122 : ∀ t, Steps p.tables e below (T113.setTop (mkF m 81 #[.val (.int u0), .val (.int u1), .val (.int (1 : Int32)), .val (.int (2 : Int32)), .val (.ref aS), .val (.ref aT), .val (.int (0 : Int32))] [(.ref aT), (.ref aS)])) t → Steps p.tables e below (T113.setTop (mkF m 74 #[.val (.int u0), .val (.int u1), .val (.int (1 : Int32)), .val (.int (2 : Int32)), .val (.ref aS), .val (.ref aT), .unset] [])) t := by
        intro t k
        show Steps p.tables e below (T113.setTop (mkF m 74 #[.val (.int u0), .val (.int u1), .val (.int (1 : Int32)), .val (.int (2 : Int32)), .val (.ref aS), .val (.ref aT), .unset] [])) t
        refine XS.iconst X113.here hx rfl (hb hby at_74) ?_
        show Steps p.tables e below (T113.setTop (mkF m 75 #[.val (.int u0), .val (.int u1), .val (.int (1 : Int32)), .val (.int (2 : Int32)), .val (.ref aS), .val (.ref aT), .unset] [(.int (0 : Int32))])) t
        refine XS.istore X113.here hx rfl (hb hby at_75) rfl (l' := #[.val (.int u0), .val (.int u1), .val (.int (1 : Int32)), .val (.int (2 : Int32)), .val (.ref aS), .val (.ref aT), .val (.int (0 : Int32))]) rfl ?_
        show Steps p.tables e below (T113.setTop (mkF m 77 #[.val (.int u0), .val (.int u1), .val (.int (1 : Int32)), .val (.int (2 : Int32)), .val (.ref aS), .val (.ref aT), .val (.int (0 : Int32))] [])) t
        refine XS.aload X113.here hx rfl (hb hby at_77) rfl rfl ?_
        show Steps p.tables e below (T113.setTop (mkF m 79 #[.val (.int u0), .val (.int u1), .val (.int (1 : Int32)), .val (.int (2 : Int32)), .val (.ref aS), .val (.ref aT), .val (.int (0 : Int32))] [(.ref aS)])) t
        refine XS.aload X113.here hx rfl (hb hby at_79) rfl rfl ?_
        exact k
      refine OFin.go S122 ?_
      obtain ⟨_, T123, Lc123, X123, hQ123, st123⟩ := virtQ X113 hx hZ (y := (⟨"com/example/stowage/stowage/ip/Profile", "follows", "(Lcom/example/stowage/stowage/ip/Profile;)Z"⟩ : MethodName)) hown (hw _ (List.mem_of_getElem? (i := 10) rfl)) (hw _ (List.mem_of_getElem? (i := 12) rfl)) (hw _ (List.mem_of_getElem? (i := 6) rfl)) (hw _ (List.mem_of_getElem? (i := 14) rfl)) (hw _ (List.mem_of_getElem? (i := 11) rfl)) (hw _ (List.mem_of_getElem? (i := 13) rfl)) (by decide) EaS (argsL := [(.ref aT)]) (rest := []) (rm2_1_2 l Z a0 hw [] aC aS aT aA h0 n0 Z0 FaC FaS FaT FaA naCaS naCaT naCaA naSaT naSaA naTaA) (W := 0) (by decide) (by decide) e113 (g := (mkF m 81 #[.val (.int u0), .val (.int u1), .val (.int (1 : Int32)), .val (.int (2 : Int32)), .val (.ref aS), .val (.ref aT), .val (.int (0 : Int32))] [(.ref aT), (.ref aS)])) rfl (by rw [hml]; rfl) (lenOf pd_1 rfl) rfl (by show 2 * 0 + _ ≤ _; exact Nat.le_of_eq rfl) (hb hby at_81) (Nat.le_of_ble_eq_true rfl) (Nat.le_of_ble_eq_true rfl)
      obtain ⟨rfl, N123q, e123⟩ := hQ123
      have N123 := Fr.app N113 N123q
      refine OFin.go st123 ?_
      show OFin p e below _ (T123.setTop (mkF m 84 #[.val (.int u0), .val (.int u1), .val (.int (1 : Int32)), .val (.int (2 : Int32)), .val (.ref aS), .val (.ref aT), .val (.int (0 : Int32))] [(.int (0 : Int32))]))
      have S124 : ∀ t, Steps p.tables e below (T123.setTop (mkF m 86 #[.val (.int u0), .val (.int u1), .val (.int (1 : Int32)), .val (.int (2 : Int32)), .val (.ref aS), .val (.ref aT), .val (.int (0 : Int32))] [(.int (0 : Int32)), (.int (0 : Int32))])) t → Steps p.tables e below (T123.setTop (mkF m 84 #[.val (.int u0), .val (.int u1), .val (.int (1 : Int32)), .val (.int (2 : Int32)), .val (.ref aS), .val (.ref aT), .val (.int (0 : Int32))] [(.int (0 : Int32))])) t := by
        intro t k
        show Steps p.tables e below (T123.setTop (mkF m 84 #[.val (.int u0), .val (.int u1), .val (.int (1 : Int32)), .val (.int (2 : Int32)), .val (.ref aS), .val (.ref aT), .val (.int (0 : Int32))] [(.int (0 : Int32))])) t
        refine XS.iload X123.here hx rfl (hb hby at_84) rfl ?_
        exact k
      refine OFin.go S124 ?_
      have S125 : ∀ t, Steps p.tables e below (T123.setTop (mkF m 89 #[.val (.int u0), .val (.int u1), .val (.int (1 : Int32)), .val (.int (2 : Int32)), .val (.ref aS), .val (.ref aT), .val (.int (0 : Int32))] [])) t → Steps p.tables e below (T123.setTop (mkF m 86 #[.val (.int u0), .val (.int u1), .val (.int (1 : Int32)), .val (.int (2 : Int32)), .val (.ref aS), .val (.ref aT), .val (.int (0 : Int32))] [(.int (0 : Int32)), (.int (0 : Int32))])) t := by
        intro t k
        show Steps p.tables e below (T123.setTop (mkF m 86 #[.val (.int u0), .val (.int u1), .val (.int (1 : Int32)), .val (.int (2 : Int32)), .val (.ref aS), .val (.ref aT), .val (.int (0 : Int32))] [(.int (0 : Int32)), (.int (0 : Int32))])) t
        refine XS.icmpNo X123.here hx rfl (hb hby at_86) rfl (teq (by decide)).2 ?_
        exact k
      refine OFin.go S125 ?_
      have S126 : ∀ t, Steps p.tables e below (T123.setTop (mkF m 94 #[.val (.int u0), .val (.int u1), .val (.int (1 : Int32)), .val (.int (2 : Int32)), .val (.ref aS), .val (.ref aT), .val (.int (0 : Int32))] [(.int (1 : Int32))])) t → Steps p.tables e below (T123.setTop (mkF m 89 #[.val (.int u0), .val (.int u1), .val (.int (1 : Int32)), .val (.int (2 : Int32)), .val (.ref aS), .val (.ref aT), .val (.int (0 : Int32))] [])) t := by
        intro t k
        show Steps p.tables e below (T123.setTop (mkF m 89 #[.val (.int u0), .val (.int u1), .val (.int (1 : Int32)), .val (.int (2 : Int32)), .val (.ref aS), .val (.ref aT), .val (.int (0 : Int32))] [])) t
        refine XS.iconst X123.here hx rfl (hb hby at_89) ?_
        show Steps p.tables e below (T123.setTop (mkF m 90 #[.val (.int u0), .val (.int u1), .val (.int (1 : Int32)), .val (.int (2 : Int32)), .val (.ref aS), .val (.ref aT), .val (.int (0 : Int32))] [(.int (1 : Int32))])) t
        refine XS.goto X123.here hx rfl (pc0 := 90) (pc' := 94) rfl (hb hby at_90) (by decide) (by decide) ?_
        exact k
      refine OFin.go S126 ?_
      exact finZ X123 hx Bd.notSynchronized (t := .boolean) Bd.returns (by simp) (hb hby at_94) rfl (by decide) (by decide) (⟨congrArg (fun z => some (Value.int z)) (rfl : (1 : Int32) = (1 : Int32)), N123⟩)
    ·
      subst hkk81'
      show OFin p e below _ (s₁.setTop (mkF m 14 #[.val (.int u0), .val (.int u1), .val (.int (1 : Int32)), .val (.int (3 : Int32)), .unset, .unset, .unset] []))
      have S127 : ∀ t, Steps p.tables e below (s₁.setTop (mkF m 15 #[.val (.int u0), .val (.int u1), .val (.int (1 : Int32)), .val (.int (3 : Int32)), .unset, .unset, .unset] [(.int (1 : Int32))])) t → Steps p.tables e below (s₁.setTop (mkF m 14 #[.val (.int u0), .val (.int u1), .val (.int (1 : Int32)), .val (.int (3 : Int32)), .unset, .unset, .unset] [])) t := by
        intro t k
        show Steps p.tables e below (s₁.setTop (mkF m 14 #[.val (.int u0), .val (.int u1), .val (.int (1 : Int32)), .val (.int (3 : Int32)), .unset, .unset, .unset] [])) t
        refine XS.iloadN X0.here hx rfl (hb hby at_14) rfl ?_
        exact k
      refine OFin.go S127 ?_
      obtain ⟨_, T128, Lc128, X128, hQ128, st128⟩ := callQ X0 hx hZ (y := (⟨"com/example/stowage/stowage/ip/ProfileFollowsPinLaw", "pick", "(I)Lcom/example/stowage/stowage/ip/Profile;"⟩ : MethodName)) hown (hw _ (List.mem_of_getElem? (i := 1) rfl)) (hw _ (List.mem_of_getElem? (i := 2) rfl)) (hw _ (List.mem_of_getElem? (i := 3) rfl)) (hw _ (List.mem_of_getElem? (i := 4) rfl)) (by decide) (argsL := [(.int (1 : Int32))]) (rest := []) (rm1 l Z a0 hw [] (1 : Int32) aC aS aT aA h0 n0 Z0 SaC SaS SaT SaA) (W := 0) (by decide) (by decide) e0 (g := (mkF m 15 #[.val (.int u0), .val (.int u1), .val (.int (1 : Int32)), .val (.int (3 : Int32)), .unset, .unset, .unset] [(.int (1 : Int32))])) rfl (by rw [hml]; rfl) (lenOf pd_0 rfl) rfl (by show 2 * 0 + _ ≤ _; exact Nat.le_of_eq rfl) (hb hby at_15) (Nat.le_of_ble_eq_true rfl) (Nat.le_of_ble_eq_true rfl)
      obtain ⟨rfl, N128q, e128⟩ := hQ128
      have N128 := Fr.app N0 N128q
      refine OFin.go st128 ?_
      show OFin p e below _ (T128.setTop (mkF m 18 #[.val (.int u0), .val (.int u1), .val (.int (1 : Int32)), .val (.int (3 : Int32)), .unset, .unset, .unset] [(.ref aS)]))
      have S129 : ∀ t, Steps p.tables e below (T128.setTop (mkF m 21 #[.val (.int u0), .val (.int u1), .val (.int (1 : Int32)), .val (.int (3 : Int32)), .val (.ref aS), .unset, .unset] [(.int (3 : Int32))])) t → Steps p.tables e below (T128.setTop (mkF m 18 #[.val (.int u0), .val (.int u1), .val (.int (1 : Int32)), .val (.int (3 : Int32)), .unset, .unset, .unset] [(.ref aS)])) t := by
        intro t k
        show Steps p.tables e below (T128.setTop (mkF m 18 #[.val (.int u0), .val (.int u1), .val (.int (1 : Int32)), .val (.int (3 : Int32)), .unset, .unset, .unset] [(.ref aS)])) t
        refine XS.astore X128.here hx rfl (hb hby at_18) rfl rfl (l' := #[.val (.int u0), .val (.int u1), .val (.int (1 : Int32)), .val (.int (3 : Int32)), .val (.ref aS), .unset, .unset]) rfl ?_
        show Steps p.tables e below (T128.setTop (mkF m 20 #[.val (.int u0), .val (.int u1), .val (.int (1 : Int32)), .val (.int (3 : Int32)), .val (.ref aS), .unset, .unset] [])) t
        refine XS.iloadN X128.here hx rfl (hb hby at_20) rfl ?_
        exact k
      refine OFin.go S129 ?_
      obtain ⟨_, T130, Lc130, X130, hQ130, st130⟩ := callQ X128 hx hZ (y := (⟨"com/example/stowage/stowage/ip/ProfileFollowsPinLaw", "pick", "(I)Lcom/example/stowage/stowage/ip/Profile;"⟩ : MethodName)) hown (hw _ (List.mem_of_getElem? (i := 1) rfl)) (hw _ (List.mem_of_getElem? (i := 2) rfl)) (hw _ (List.mem_of_getElem? (i := 3) rfl)) (hw _ (List.mem_of_getElem? (i := 4) rfl)) (by decide) (argsL := [(.int (3 : Int32))]) (rest := []) (rm1 l Z a0 hw [] (3 : Int32) aC aS aT aA h0 n0 Z0 SaC SaS SaT SaA) (W := 0) (by decide) (by decide) e128 (g := (mkF m 21 #[.val (.int u0), .val (.int u1), .val (.int (1 : Int32)), .val (.int (3 : Int32)), .val (.ref aS), .unset, .unset] [(.int (3 : Int32))])) rfl (by rw [hml]; rfl) (lenOf pd_0 rfl) rfl (by show 2 * 0 + _ ≤ _; exact Nat.le_of_eq rfl) (hb hby at_21) (Nat.le_of_ble_eq_true rfl) (Nat.le_of_ble_eq_true rfl)
      obtain ⟨rfl, N130q, e130⟩ := hQ130
      have N130 := Fr.app N128 N130q
      refine OFin.go st130 ?_
      show OFin p e below _ (T130.setTop (mkF m 24 #[.val (.int u0), .val (.int u1), .val (.int (1 : Int32)), .val (.int (3 : Int32)), .val (.ref aS), .unset, .unset] [(.ref aA)]))
      have S131 : ∀ t, Steps p.tables e below (T130.setTop (mkF m 28 #[.val (.int u0), .val (.int u1), .val (.int (1 : Int32)), .val (.int (3 : Int32)), .val (.ref aS), .val (.ref aA), .unset] [(.int (4 : Int32)), (.int (3 : Int32))])) t → Steps p.tables e below (T130.setTop (mkF m 24 #[.val (.int u0), .val (.int u1), .val (.int (1 : Int32)), .val (.int (3 : Int32)), .val (.ref aS), .unset, .unset] [(.ref aA)])) t := by
        intro t k
        show Steps p.tables e below (T130.setTop (mkF m 24 #[.val (.int u0), .val (.int u1), .val (.int (1 : Int32)), .val (.int (3 : Int32)), .val (.ref aS), .unset, .unset] [(.ref aA)])) t
        refine XS.astore X130.here hx rfl (hb hby at_24) rfl rfl (l' := #[.val (.int u0), .val (.int u1), .val (.int (1 : Int32)), .val (.int (3 : Int32)), .val (.ref aS), .val (.ref aA), .unset]) rfl ?_
        show Steps p.tables e below (T130.setTop (mkF m 26 #[.val (.int u0), .val (.int u1), .val (.int (1 : Int32)), .val (.int (3 : Int32)), .val (.ref aS), .val (.ref aA), .unset] [])) t
        refine XS.iloadN X130.here hx rfl (hb hby at_26) rfl ?_
        show Steps p.tables e below (T130.setTop (mkF m 27 #[.val (.int u0), .val (.int u1), .val (.int (1 : Int32)), .val (.int (3 : Int32)), .val (.ref aS), .val (.ref aA), .unset] [(.int (3 : Int32))])) t
        refine XS.iconst X130.here hx rfl (hb hby at_27) ?_
        exact k
      refine OFin.go S131 ?_
      have S132 : ∀ t, Steps p.tables e below (T130.setTop (mkF m 37 #[.val (.int u0), .val (.int u1), .val (.int (1 : Int32)), .val (.int (3 : Int32)), .val (.ref aS), .val (.ref aA), .unset] [])) t → Steps p.tables e below (T130.setTop (mkF m 28 #[.val (.int u0), .val (.int u1), .val (.int (1 : Int32)), .val (.int (3 : Int32)), .val (.ref aS), .val (.ref aA), .unset] [(.int (4 : Int32)), (.int (3 : Int32))])) t := by
        intro t k
        show Steps p.tables e below (T130.setTop (mkF m 28 #[.val (.int u0), .val (.int u1), .val (.int (1 : Int32)), .val (.int (3 : Int32)), .val (.ref aS), .val (.ref aA), .unset] [(.int (4 : Int32)), (.int (3 : Int32))])) t
        refine XS.icmpYes X130.here hx rfl (pc0 := 28) (pc' := 37) rfl (hb hby at_28) rfl (feq (by decide)).2 (by decide) (by decide) ?_
        exact k
      refine OFin.go S132 ?_
      have S133 : ∀ t, Steps p.tables e below (T130.setTop (mkF m 39 #[.val (.int u0), .val (.int u1), .val (.int (1 : Int32)), .val (.int (3 : Int32)), .val (.ref aS), .val (.ref aA), .unset] [(.int (3 : Int32)), (.int (1 : Int32))])) t → Steps p.tables e below (T130.setTop (mkF m 37 #[.val (.int u0), .val (.int u1), .val (.int (1 : Int32)), .val (.int (3 : Int32)), .val (.ref aS), .val (.ref aA), .unset] [])) t := by
        intro t k
        show Steps p.tables e below (T130.setTop (mkF m 37 #[.val (.int u0), .val (.int u1), .val (.int (1 : Int32)), .val (.int (3 : Int32)), .val (.ref aS), .val (.ref aA), .unset] [])) t
        refine XS.iloadN X130.here hx rfl (hb hby at_37) rfl ?_
        show Steps p.tables e below (T130.setTop (mkF m 38 #[.val (.int u0), .val (.int u1), .val (.int (1 : Int32)), .val (.int (3 : Int32)), .val (.ref aS), .val (.ref aA), .unset] [(.int (1 : Int32))])) t
        refine XS.iloadN X130.here hx rfl (hb hby at_38) rfl ?_
        exact k
      refine OFin.go S133 ?_
      have S134 : ∀ t, Steps p.tables e below (T130.setTop (mkF m 48 #[.val (.int u0), .val (.int u1), .val (.int (1 : Int32)), .val (.int (3 : Int32)), .val (.ref aS), .val (.ref aA), .unset] [])) t → Steps p.tables e below (T130.setTop (mkF m 39 #[.val (.int u0), .val (.int u1), .val (.int (1 : Int32)), .val (.int (3 : Int32)), .val (.ref aS), .val (.ref aA), .unset] [(.int (3 : Int32)), (.int (1 : Int32))])) t := by
        intro t k
        show Steps p.tables e below (T130.setTop (mkF m 39 #[.val (.int u0), .val (.int u1), .val (.int (1 : Int32)), .val (.int (3 : Int32)), .val (.ref aS), .val (.ref aA), .unset] [(.int (3 : Int32)), (.int (1 : Int32))])) t
        refine XS.icmpYes X130.here hx rfl (pc0 := 39) (pc' := 48) rfl (hb hby at_39) rfl (feq (by decide)).2 (by decide) (by decide) ?_
        exact k
      refine OFin.go S134 ?_
      have S135 : ∀ t, Steps p.tables e below (T130.setTop (mkF m 49 #[.val (.int u0), .val (.int u1), .val (.int (1 : Int32)), .val (.int (3 : Int32)), .val (.ref aS), .val (.ref aA), .unset] [(.int (3 : Int32))])) t → Steps p.tables e below (T130.setTop (mkF m 48 #[.val (.int u0), .val (.int u1), .val (.int (1 : Int32)), .val (.int (3 : Int32)), .val (.ref aS), .val (.ref aA), .unset] [])) t := by
        intro t k
        show Steps p.tables e below (T130.setTop (mkF m 48 #[.val (.int u0), .val (.int u1), .val (.int (1 : Int32)), .val (.int (3 : Int32)), .val (.ref aS), .val (.ref aA), .unset] [])) t
        refine XS.iloadN X130.here hx rfl (hb hby at_48) rfl ?_
        exact k
      refine OFin.go S135 ?_
      have S136 : ∀ t, Steps p.tables e below (T130.setTop (mkF m 58 #[.val (.int u0), .val (.int u1), .val (.int (1 : Int32)), .val (.int (3 : Int32)), .val (.ref aS), .val (.ref aA), .unset] [])) t → Steps p.tables e below (T130.setTop (mkF m 49 #[.val (.int u0), .val (.int u1), .val (.int (1 : Int32)), .val (.int (3 : Int32)), .val (.ref aS), .val (.ref aA), .unset] [(.int (3 : Int32))])) t := by
        intro t k
        show Steps p.tables e below (T130.setTop (mkF m 49 #[.val (.int u0), .val (.int u1), .val (.int (1 : Int32)), .val (.int (3 : Int32)), .val (.ref aS), .val (.ref aA), .unset] [(.int (3 : Int32))])) t
        refine XS.ifYes X130.here hx rfl (pc0 := 49) (pc' := 58) rfl (hb hby at_49) rfl ((if0 _ _).trans (feq (by decide)).2) (by decide) (by decide) ?_
        exact k
      refine OFin.go S136 ?_
      have S137 : ∀ t, Steps p.tables e below (T130.setTop (mkF m 60 #[.val (.int u0), .val (.int u1), .val (.int (1 : Int32)), .val (.int (3 : Int32)), .val (.ref aS), .val (.ref aA), .unset] [(.int (2 : Int32)), (.int (1 : Int32))])) t → Steps p.tables e below (T130.setTop (mkF m 58 #[.val (.int u0), .val (.int u1), .val (.int (1 : Int32)), .val (.int (3 : Int32)), .val (.ref aS), .val (.ref aA), .unset] [])) t := by
        intro t k
        show Steps p.tables e below (T130.setTop (mkF m 58 #[.val (.int u0), .val (.int u1), .val (.int (1 : Int32)), .val (.int (3 : Int32)), .val (.ref aS), .val (.ref aA), .unset] [])) t
        refine XS.iloadN X130.here hx rfl (hb hby at_58) rfl ?_
        show Steps p.tables e below (T130.setTop (mkF m 59 #[.val (.int u0), .val (.int u1), .val (.int (1 : Int32)), .val (.int (3 : Int32)), .val (.ref aS), .val (.ref aA), .unset] [(.int (1 : Int32))])) t
        refine XS.iconst X130.here hx rfl (hb hby at_59) ?_
        exact k
      refine OFin.go S137 ?_
      have S138 : ∀ t, Steps p.tables e below (T130.setTop (mkF m 74 #[.val (.int u0), .val (.int u1), .val (.int (1 : Int32)), .val (.int (3 : Int32)), .val (.ref aS), .val (.ref aA), .unset] [])) t → Steps p.tables e below (T130.setTop (mkF m 60 #[.val (.int u0), .val (.int u1), .val (.int (1 : Int32)), .val (.int (3 : Int32)), .val (.ref aS), .val (.ref aA), .unset] [(.int (2 : Int32)), (.int (1 : Int32))])) t := by
        intro t k
        show Steps p.tables e below (T130.setTop (mkF m 60 #[.val (.int u0), .val (.int u1), .val (.int (1 : Int32)), .val (.int (3 : Int32)), .val (.ref aS), .val (.ref aA), .unset] [(.int (2 : Int32)), (.int (1 : Int32))])) t
        refine XS.icmpYes X130.here hx rfl (pc0 := 60) (pc' := 74) rfl (hb hby at_60) rfl (feq (by decide)).2 (by decide) (by decide) ?_
        exact k
      refine OFin.go S138 ?_
      have S139 : ∀ t, Steps p.tables e below (T130.setTop (mkF m 81 #[.val (.int u0), .val (.int u1), .val (.int (1 : Int32)), .val (.int (3 : Int32)), .val (.ref aS), .val (.ref aA), .val (.int (0 : Int32))] [(.ref aA), (.ref aS)])) t → Steps p.tables e below (T130.setTop (mkF m 74 #[.val (.int u0), .val (.int u1), .val (.int (1 : Int32)), .val (.int (3 : Int32)), .val (.ref aS), .val (.ref aA), .unset] [])) t := by
        intro t k
        show Steps p.tables e below (T130.setTop (mkF m 74 #[.val (.int u0), .val (.int u1), .val (.int (1 : Int32)), .val (.int (3 : Int32)), .val (.ref aS), .val (.ref aA), .unset] [])) t
        refine XS.iconst X130.here hx rfl (hb hby at_74) ?_
        show Steps p.tables e below (T130.setTop (mkF m 75 #[.val (.int u0), .val (.int u1), .val (.int (1 : Int32)), .val (.int (3 : Int32)), .val (.ref aS), .val (.ref aA), .unset] [(.int (0 : Int32))])) t
        refine XS.istore X130.here hx rfl (hb hby at_75) rfl (l' := #[.val (.int u0), .val (.int u1), .val (.int (1 : Int32)), .val (.int (3 : Int32)), .val (.ref aS), .val (.ref aA), .val (.int (0 : Int32))]) rfl ?_
        show Steps p.tables e below (T130.setTop (mkF m 77 #[.val (.int u0), .val (.int u1), .val (.int (1 : Int32)), .val (.int (3 : Int32)), .val (.ref aS), .val (.ref aA), .val (.int (0 : Int32))] [])) t
        refine XS.aload X130.here hx rfl (hb hby at_77) rfl rfl ?_
        show Steps p.tables e below (T130.setTop (mkF m 79 #[.val (.int u0), .val (.int u1), .val (.int (1 : Int32)), .val (.int (3 : Int32)), .val (.ref aS), .val (.ref aA), .val (.int (0 : Int32))] [(.ref aS)])) t
        refine XS.aload X130.here hx rfl (hb hby at_79) rfl rfl ?_
        exact k
      refine OFin.go S139 ?_
      obtain ⟨_, T140, Lc140, X140, hQ140, st140⟩ := virtQ X130 hx hZ (y := (⟨"com/example/stowage/stowage/ip/Profile", "follows", "(Lcom/example/stowage/stowage/ip/Profile;)Z"⟩ : MethodName)) hown (hw _ (List.mem_of_getElem? (i := 10) rfl)) (hw _ (List.mem_of_getElem? (i := 12) rfl)) (hw _ (List.mem_of_getElem? (i := 6) rfl)) (hw _ (List.mem_of_getElem? (i := 14) rfl)) (hw _ (List.mem_of_getElem? (i := 11) rfl)) (hw _ (List.mem_of_getElem? (i := 13) rfl)) (by decide) EaS (argsL := [(.ref aA)]) (rest := []) (rm2_1_3 l Z a0 hw [] aC aS aT aA h0 n0 Z0 FaC FaS FaT FaA naCaS naCaT naCaA naSaT naSaA naTaA) (W := 0) (by decide) (by decide) e130 (g := (mkF m 81 #[.val (.int u0), .val (.int u1), .val (.int (1 : Int32)), .val (.int (3 : Int32)), .val (.ref aS), .val (.ref aA), .val (.int (0 : Int32))] [(.ref aA), (.ref aS)])) rfl (by rw [hml]; rfl) (lenOf pd_1 rfl) rfl (by show 2 * 0 + _ ≤ _; exact Nat.le_of_eq rfl) (hb hby at_81) (Nat.le_of_ble_eq_true rfl) (Nat.le_of_ble_eq_true rfl)
      obtain ⟨rfl, N140q, e140⟩ := hQ140
      have N140 := Fr.app N130 N140q
      refine OFin.go st140 ?_
      show OFin p e below _ (T140.setTop (mkF m 84 #[.val (.int u0), .val (.int u1), .val (.int (1 : Int32)), .val (.int (3 : Int32)), .val (.ref aS), .val (.ref aA), .val (.int (0 : Int32))] [(.int (0 : Int32))]))
      have S141 : ∀ t, Steps p.tables e below (T140.setTop (mkF m 86 #[.val (.int u0), .val (.int u1), .val (.int (1 : Int32)), .val (.int (3 : Int32)), .val (.ref aS), .val (.ref aA), .val (.int (0 : Int32))] [(.int (0 : Int32)), (.int (0 : Int32))])) t → Steps p.tables e below (T140.setTop (mkF m 84 #[.val (.int u0), .val (.int u1), .val (.int (1 : Int32)), .val (.int (3 : Int32)), .val (.ref aS), .val (.ref aA), .val (.int (0 : Int32))] [(.int (0 : Int32))])) t := by
        intro t k
        show Steps p.tables e below (T140.setTop (mkF m 84 #[.val (.int u0), .val (.int u1), .val (.int (1 : Int32)), .val (.int (3 : Int32)), .val (.ref aS), .val (.ref aA), .val (.int (0 : Int32))] [(.int (0 : Int32))])) t
        refine XS.iload X140.here hx rfl (hb hby at_84) rfl ?_
        exact k
      refine OFin.go S141 ?_
      have S142 : ∀ t, Steps p.tables e below (T140.setTop (mkF m 89 #[.val (.int u0), .val (.int u1), .val (.int (1 : Int32)), .val (.int (3 : Int32)), .val (.ref aS), .val (.ref aA), .val (.int (0 : Int32))] [])) t → Steps p.tables e below (T140.setTop (mkF m 86 #[.val (.int u0), .val (.int u1), .val (.int (1 : Int32)), .val (.int (3 : Int32)), .val (.ref aS), .val (.ref aA), .val (.int (0 : Int32))] [(.int (0 : Int32)), (.int (0 : Int32))])) t := by
        intro t k
        show Steps p.tables e below (T140.setTop (mkF m 86 #[.val (.int u0), .val (.int u1), .val (.int (1 : Int32)), .val (.int (3 : Int32)), .val (.ref aS), .val (.ref aA), .val (.int (0 : Int32))] [(.int (0 : Int32)), (.int (0 : Int32))])) t
        refine XS.icmpNo X140.here hx rfl (hb hby at_86) rfl (teq (by decide)).2 ?_
        exact k
      refine OFin.go S142 ?_
      have S143 : ∀ t, Steps p.tables e below (T140.setTop (mkF m 94 #[.val (.int u0), .val (.int u1), .val (.int (1 : Int32)), .val (.int (3 : Int32)), .val (.ref aS), .val (.ref aA), .val (.int (0 : Int32))] [(.int (1 : Int32))])) t → Steps p.tables e below (T140.setTop (mkF m 89 #[.val (.int u0), .val (.int u1), .val (.int (1 : Int32)), .val (.int (3 : Int32)), .val (.ref aS), .val (.ref aA), .val (.int (0 : Int32))] [])) t := by
        intro t k
        show Steps p.tables e below (T140.setTop (mkF m 89 #[.val (.int u0), .val (.int u1), .val (.int (1 : Int32)), .val (.int (3 : Int32)), .val (.ref aS), .val (.ref aA), .val (.int (0 : Int32))] [])) t
        refine XS.iconst X140.here hx rfl (hb hby at_89) ?_
        show Steps p.tables e below (T140.setTop (mkF m 90 #[.val (.int u0), .val (.int u1), .val (.int (1 : Int32)), .val (.int (3 : Int32)), .val (.ref aS), .val (.ref aA), .val (.int (0 : Int32))] [(.int (1 : Int32))])) t
        refine XS.goto X140.here hx rfl (pc0 := 90) (pc' := 94) rfl (hb hby at_90) (by decide) (by decide) ?_
        exact k
      refine OFin.go S143 ?_
      exact finZ X140 hx Bd.notSynchronized (t := .boolean) Bd.returns (by simp) (hb hby at_94) rfl (by decide) (by decide) (⟨congrArg (fun z => some (Value.int z)) (rfl : (1 : Int32) = (1 : Int32)), N140⟩)
    ·
      subst hkk81'
      show OFin p e below _ (s₁.setTop (mkF m 14 #[.val (.int u0), .val (.int u1), .val (.int (1 : Int32)), .val (.int (4 : Int32)), .unset, .unset, .unset] []))
      have S144 : ∀ t, Steps p.tables e below (s₁.setTop (mkF m 15 #[.val (.int u0), .val (.int u1), .val (.int (1 : Int32)), .val (.int (4 : Int32)), .unset, .unset, .unset] [(.int (1 : Int32))])) t → Steps p.tables e below (s₁.setTop (mkF m 14 #[.val (.int u0), .val (.int u1), .val (.int (1 : Int32)), .val (.int (4 : Int32)), .unset, .unset, .unset] [])) t := by
        intro t k
        show Steps p.tables e below (s₁.setTop (mkF m 14 #[.val (.int u0), .val (.int u1), .val (.int (1 : Int32)), .val (.int (4 : Int32)), .unset, .unset, .unset] [])) t
        refine XS.iloadN X0.here hx rfl (hb hby at_14) rfl ?_
        exact k
      refine OFin.go S144 ?_
      obtain ⟨_, T145, Lc145, X145, hQ145, st145⟩ := callQ X0 hx hZ (y := (⟨"com/example/stowage/stowage/ip/ProfileFollowsPinLaw", "pick", "(I)Lcom/example/stowage/stowage/ip/Profile;"⟩ : MethodName)) hown (hw _ (List.mem_of_getElem? (i := 1) rfl)) (hw _ (List.mem_of_getElem? (i := 2) rfl)) (hw _ (List.mem_of_getElem? (i := 3) rfl)) (hw _ (List.mem_of_getElem? (i := 4) rfl)) (by decide) (argsL := [(.int (1 : Int32))]) (rest := []) (rm1 l Z a0 hw [] (1 : Int32) aC aS aT aA h0 n0 Z0 SaC SaS SaT SaA) (W := 0) (by decide) (by decide) e0 (g := (mkF m 15 #[.val (.int u0), .val (.int u1), .val (.int (1 : Int32)), .val (.int (4 : Int32)), .unset, .unset, .unset] [(.int (1 : Int32))])) rfl (by rw [hml]; rfl) (lenOf pd_0 rfl) rfl (by show 2 * 0 + _ ≤ _; exact Nat.le_of_eq rfl) (hb hby at_15) (Nat.le_of_ble_eq_true rfl) (Nat.le_of_ble_eq_true rfl)
      obtain ⟨rfl, N145q, e145⟩ := hQ145
      have N145 := Fr.app N0 N145q
      refine OFin.go st145 ?_
      show OFin p e below _ (T145.setTop (mkF m 18 #[.val (.int u0), .val (.int u1), .val (.int (1 : Int32)), .val (.int (4 : Int32)), .unset, .unset, .unset] [(.ref aS)]))
      have S146 : ∀ t, Steps p.tables e below (T145.setTop (mkF m 21 #[.val (.int u0), .val (.int u1), .val (.int (1 : Int32)), .val (.int (4 : Int32)), .val (.ref aS), .unset, .unset] [(.int (4 : Int32))])) t → Steps p.tables e below (T145.setTop (mkF m 18 #[.val (.int u0), .val (.int u1), .val (.int (1 : Int32)), .val (.int (4 : Int32)), .unset, .unset, .unset] [(.ref aS)])) t := by
        intro t k
        show Steps p.tables e below (T145.setTop (mkF m 18 #[.val (.int u0), .val (.int u1), .val (.int (1 : Int32)), .val (.int (4 : Int32)), .unset, .unset, .unset] [(.ref aS)])) t
        refine XS.astore X145.here hx rfl (hb hby at_18) rfl rfl (l' := #[.val (.int u0), .val (.int u1), .val (.int (1 : Int32)), .val (.int (4 : Int32)), .val (.ref aS), .unset, .unset]) rfl ?_
        show Steps p.tables e below (T145.setTop (mkF m 20 #[.val (.int u0), .val (.int u1), .val (.int (1 : Int32)), .val (.int (4 : Int32)), .val (.ref aS), .unset, .unset] [])) t
        refine XS.iloadN X145.here hx rfl (hb hby at_20) rfl ?_
        exact k
      refine OFin.go S146 ?_
      obtain ⟨_, T147, Lc147, X147, hQ147, st147⟩ := callQ X145 hx hZ (y := (⟨"com/example/stowage/stowage/ip/ProfileFollowsPinLaw", "pick", "(I)Lcom/example/stowage/stowage/ip/Profile;"⟩ : MethodName)) hown (hw _ (List.mem_of_getElem? (i := 1) rfl)) (hw _ (List.mem_of_getElem? (i := 2) rfl)) (hw _ (List.mem_of_getElem? (i := 3) rfl)) (hw _ (List.mem_of_getElem? (i := 4) rfl)) (by decide) (argsL := [(.int (4 : Int32))]) (rest := []) (rm1 l Z a0 hw [] (4 : Int32) aC aS aT aA h0 n0 Z0 SaC SaS SaT SaA) (W := 0) (by decide) (by decide) e145 (g := (mkF m 21 #[.val (.int u0), .val (.int u1), .val (.int (1 : Int32)), .val (.int (4 : Int32)), .val (.ref aS), .unset, .unset] [(.int (4 : Int32))])) rfl (by rw [hml]; rfl) (lenOf pd_0 rfl) rfl (by show 2 * 0 + _ ≤ _; exact Nat.le_of_eq rfl) (hb hby at_21) (Nat.le_of_ble_eq_true rfl) (Nat.le_of_ble_eq_true rfl)
      obtain ⟨rfl, N147q, e147⟩ := hQ147
      have N147 := Fr.app N145 N147q
      refine OFin.go st147 ?_
      show OFin p e below _ (T147.setTop (mkF m 24 #[.val (.int u0), .val (.int u1), .val (.int (1 : Int32)), .val (.int (4 : Int32)), .val (.ref aS), .unset, .unset] [.null]))
      have S148 : ∀ t, Steps p.tables e below (T147.setTop (mkF m 28 #[.val (.int u0), .val (.int u1), .val (.int (1 : Int32)), .val (.int (4 : Int32)), .val (.ref aS), .val .null, .unset] [(.int (4 : Int32)), (.int (4 : Int32))])) t → Steps p.tables e below (T147.setTop (mkF m 24 #[.val (.int u0), .val (.int u1), .val (.int (1 : Int32)), .val (.int (4 : Int32)), .val (.ref aS), .unset, .unset] [.null])) t := by
        intro t k
        show Steps p.tables e below (T147.setTop (mkF m 24 #[.val (.int u0), .val (.int u1), .val (.int (1 : Int32)), .val (.int (4 : Int32)), .val (.ref aS), .unset, .unset] [.null])) t
        refine XS.astore X147.here hx rfl (hb hby at_24) rfl rfl (l' := #[.val (.int u0), .val (.int u1), .val (.int (1 : Int32)), .val (.int (4 : Int32)), .val (.ref aS), .val .null, .unset]) rfl ?_
        show Steps p.tables e below (T147.setTop (mkF m 26 #[.val (.int u0), .val (.int u1), .val (.int (1 : Int32)), .val (.int (4 : Int32)), .val (.ref aS), .val .null, .unset] [])) t
        refine XS.iloadN X147.here hx rfl (hb hby at_26) rfl ?_
        show Steps p.tables e below (T147.setTop (mkF m 27 #[.val (.int u0), .val (.int u1), .val (.int (1 : Int32)), .val (.int (4 : Int32)), .val (.ref aS), .val .null, .unset] [(.int (4 : Int32))])) t
        refine XS.iconst X147.here hx rfl (hb hby at_27) ?_
        exact k
      refine OFin.go S148 ?_
      have S149 : ∀ t, Steps p.tables e below (T147.setTop (mkF m 31 #[.val (.int u0), .val (.int u1), .val (.int (1 : Int32)), .val (.int (4 : Int32)), .val (.ref aS), .val .null, .unset] [])) t → Steps p.tables e below (T147.setTop (mkF m 28 #[.val (.int u0), .val (.int u1), .val (.int (1 : Int32)), .val (.int (4 : Int32)), .val (.ref aS), .val .null, .unset] [(.int (4 : Int32)), (.int (4 : Int32))])) t := by
        intro t k
        show Steps p.tables e below (T147.setTop (mkF m 28 #[.val (.int u0), .val (.int u1), .val (.int (1 : Int32)), .val (.int (4 : Int32)), .val (.ref aS), .val .null, .unset] [(.int (4 : Int32)), (.int (4 : Int32))])) t
        refine XS.icmpNo X147.here hx rfl (hb hby at_28) rfl (teq (by decide)).2 ?_
        exact k
      refine OFin.go S149 ?_
      have S150 : ∀ t, Steps p.tables e below (T147.setTop (mkF m 81 #[.val (.int u0), .val (.int u1), .val (.int (1 : Int32)), .val (.int (4 : Int32)), .val (.ref aS), .val .null, .val (.int (0 : Int32))] [.null, (.ref aS)])) t → Steps p.tables e below (T147.setTop (mkF m 31 #[.val (.int u0), .val (.int u1), .val (.int (1 : Int32)), .val (.int (4 : Int32)), .val (.ref aS), .val .null, .unset] [])) t := by
        intro t k
        show Steps p.tables e below (T147.setTop (mkF m 31 #[.val (.int u0), .val (.int u1), .val (.int (1 : Int32)), .val (.int (4 : Int32)), .val (.ref aS), .val .null, .unset] [])) t
        refine XS.iconst X147.here hx rfl (hb hby at_31) ?_
        show Steps p.tables e below (T147.setTop (mkF m 32 #[.val (.int u0), .val (.int u1), .val (.int (1 : Int32)), .val (.int (4 : Int32)), .val (.ref aS), .val .null, .unset] [(.int (0 : Int32))])) t
        refine XS.istore X147.here hx rfl (hb hby at_32) rfl (l' := #[.val (.int u0), .val (.int u1), .val (.int (1 : Int32)), .val (.int (4 : Int32)), .val (.ref aS), .val .null, .val (.int (0 : Int32))]) rfl ?_
        show Steps p.tables e below (T147.setTop (mkF m 34 #[.val (.int u0), .val (.int u1), .val (.int (1 : Int32)), .val (.int (4 : Int32)), .val (.ref aS), .val .null, .val (.int (0 : Int32))] [])) t
        refine XS.goto X147.here hx rfl (pc0 := 34) (pc' := 77) rfl (hb hby at_34) (by decide) (by decide) ?_
        show Steps p.tables e below (T147.setTop (mkF m 77 #[.val (.int u0), .val (.int u1), .val (.int (1 : Int32)), .val (.int (4 : Int32)), .val (.ref aS), .val .null, .val (.int (0 : Int32))] [])) t
        refine XS.aload X147.here hx rfl (hb hby at_77) rfl rfl ?_
        show Steps p.tables e below (T147.setTop (mkF m 79 #[.val (.int u0), .val (.int u1), .val (.int (1 : Int32)), .val (.int (4 : Int32)), .val (.ref aS), .val .null, .val (.int (0 : Int32))] [(.ref aS)])) t
        refine XS.aload X147.here hx rfl (hb hby at_79) rfl rfl ?_
        exact k
      refine OFin.go S150 ?_
      obtain ⟨_, T151, Lc151, X151, hQ151, st151⟩ := virtQ X147 hx hZ (y := (⟨"com/example/stowage/stowage/ip/Profile", "follows", "(Lcom/example/stowage/stowage/ip/Profile;)Z"⟩ : MethodName)) hown (hw _ (List.mem_of_getElem? (i := 10) rfl)) (hw _ (List.mem_of_getElem? (i := 12) rfl)) (hw _ (List.mem_of_getElem? (i := 6) rfl)) (hw _ (List.mem_of_getElem? (i := 14) rfl)) (hw _ (List.mem_of_getElem? (i := 11) rfl)) (hw _ (List.mem_of_getElem? (i := 13) rfl)) (by decide) EaS (argsL := [.null]) (rest := []) (rm2_1_4 l Z a0 hw [] aC aS aT aA h0 n0 Z0 FaC FaS FaT FaA naCaS naCaT naCaA naSaT naSaA naTaA) (W := 0) (by decide) (by decide) e147 (g := (mkF m 81 #[.val (.int u0), .val (.int u1), .val (.int (1 : Int32)), .val (.int (4 : Int32)), .val (.ref aS), .val .null, .val (.int (0 : Int32))] [.null, (.ref aS)])) rfl (by rw [hml]; rfl) (lenOf pd_1 rfl) rfl (by show 2 * 0 + _ ≤ _; exact Nat.le_of_eq rfl) (hb hby at_81) (Nat.le_of_ble_eq_true rfl) (Nat.le_of_ble_eq_true rfl)
      obtain ⟨rfl, N151q, e151⟩ := hQ151
      have N151 := Fr.app N147 N151q
      refine OFin.go st151 ?_
      show OFin p e below _ (T151.setTop (mkF m 84 #[.val (.int u0), .val (.int u1), .val (.int (1 : Int32)), .val (.int (4 : Int32)), .val (.ref aS), .val .null, .val (.int (0 : Int32))] [(.int (0 : Int32))]))
      have S152 : ∀ t, Steps p.tables e below (T151.setTop (mkF m 86 #[.val (.int u0), .val (.int u1), .val (.int (1 : Int32)), .val (.int (4 : Int32)), .val (.ref aS), .val .null, .val (.int (0 : Int32))] [(.int (0 : Int32)), (.int (0 : Int32))])) t → Steps p.tables e below (T151.setTop (mkF m 84 #[.val (.int u0), .val (.int u1), .val (.int (1 : Int32)), .val (.int (4 : Int32)), .val (.ref aS), .val .null, .val (.int (0 : Int32))] [(.int (0 : Int32))])) t := by
        intro t k
        show Steps p.tables e below (T151.setTop (mkF m 84 #[.val (.int u0), .val (.int u1), .val (.int (1 : Int32)), .val (.int (4 : Int32)), .val (.ref aS), .val .null, .val (.int (0 : Int32))] [(.int (0 : Int32))])) t
        refine XS.iload X151.here hx rfl (hb hby at_84) rfl ?_
        exact k
      refine OFin.go S152 ?_
      have S153 : ∀ t, Steps p.tables e below (T151.setTop (mkF m 89 #[.val (.int u0), .val (.int u1), .val (.int (1 : Int32)), .val (.int (4 : Int32)), .val (.ref aS), .val .null, .val (.int (0 : Int32))] [])) t → Steps p.tables e below (T151.setTop (mkF m 86 #[.val (.int u0), .val (.int u1), .val (.int (1 : Int32)), .val (.int (4 : Int32)), .val (.ref aS), .val .null, .val (.int (0 : Int32))] [(.int (0 : Int32)), (.int (0 : Int32))])) t := by
        intro t k
        show Steps p.tables e below (T151.setTop (mkF m 86 #[.val (.int u0), .val (.int u1), .val (.int (1 : Int32)), .val (.int (4 : Int32)), .val (.ref aS), .val .null, .val (.int (0 : Int32))] [(.int (0 : Int32)), (.int (0 : Int32))])) t
        refine XS.icmpNo X151.here hx rfl (hb hby at_86) rfl (teq (by decide)).2 ?_
        exact k
      refine OFin.go S153 ?_
      have S154 : ∀ t, Steps p.tables e below (T151.setTop (mkF m 94 #[.val (.int u0), .val (.int u1), .val (.int (1 : Int32)), .val (.int (4 : Int32)), .val (.ref aS), .val .null, .val (.int (0 : Int32))] [(.int (1 : Int32))])) t → Steps p.tables e below (T151.setTop (mkF m 89 #[.val (.int u0), .val (.int u1), .val (.int (1 : Int32)), .val (.int (4 : Int32)), .val (.ref aS), .val .null, .val (.int (0 : Int32))] [])) t := by
        intro t k
        show Steps p.tables e below (T151.setTop (mkF m 89 #[.val (.int u0), .val (.int u1), .val (.int (1 : Int32)), .val (.int (4 : Int32)), .val (.ref aS), .val .null, .val (.int (0 : Int32))] [])) t
        refine XS.iconst X151.here hx rfl (hb hby at_89) ?_
        show Steps p.tables e below (T151.setTop (mkF m 90 #[.val (.int u0), .val (.int u1), .val (.int (1 : Int32)), .val (.int (4 : Int32)), .val (.ref aS), .val .null, .val (.int (0 : Int32))] [(.int (1 : Int32))])) t
        refine XS.goto X151.here hx rfl (pc0 := 90) (pc' := 94) rfl (hb hby at_90) (by decide) (by decide) ?_
        exact k
      refine OFin.go S154 ?_
      exact finZ X151 hx Bd.notSynchronized (t := .boolean) Bd.returns (by simp) (hb hby at_94) rfl (by decide) (by decide) (⟨congrArg (fun z => some (Value.int z)) (rfl : (1 : Int32) = (1 : Int32)), N151⟩)
  ·
    subst hkk2'
    show OFin p e below _ (s₁.setTop (mkF m 7 #[.val (.int u0), .val (.int u1), .val (.int (2 : Int32)), .unset, .unset, .unset, .unset] []))
    have S155 : ∀ t, Steps p.tables e below (s₁.setTop (mkF m 14 #[.val (.int u0), .val (.int u1), .val (.int (2 : Int32)), .val (.int ((u1 &&& (2147483647 : Int32)) % (5 : Int32))), .unset, .unset, .unset] [])) t → Steps p.tables e below (s₁.setTop (mkF m 7 #[.val (.int u0), .val (.int u1), .val (.int (2 : Int32)), .unset, .unset, .unset, .unset] [])) t := by
      intro t k
      show Steps p.tables e below (s₁.setTop (mkF m 7 #[.val (.int u0), .val (.int u1), .val (.int (2 : Int32)), .unset, .unset, .unset, .unset] [])) t
      refine XS.iloadN X0.here hx rfl (hb hby at_7) rfl ?_
      show Steps p.tables e below (s₁.setTop (mkF m 8 #[.val (.int u0), .val (.int u1), .val (.int (2 : Int32)), .unset, .unset, .unset, .unset] [(.int u1)])) t
      refine X0.ldcInt hx hown (mvT hZ (hw _ (List.mem_of_getElem? (i := 0) rfl))) (g := (mkF m 8 #[.val (.int u0), .val (.int u1), .val (.int (2 : Int32)), .unset, .unset, .unset, .unset] [(.int u1)])) rfl (hb hby at_8) _ ?_
      show Steps p.tables e below (s₁.setTop (mkF m 10 #[.val (.int u0), .val (.int u1), .val (.int (2 : Int32)), .unset, .unset, .unset, .unset] [(.int (2147483647 : Int32)), (.int u1)])) t
      refine XS.iand X0.here hx rfl (hb hby at_10) rfl ?_
      show Steps p.tables e below (s₁.setTop (mkF m 11 #[.val (.int u0), .val (.int u1), .val (.int (2 : Int32)), .unset, .unset, .unset, .unset] [(.int (u1 &&& (2147483647 : Int32)))])) t
      refine XS.iconst X0.here hx rfl (hb hby at_11) ?_
      show Steps p.tables e below (s₁.setTop (mkF m 12 #[.val (.int u0), .val (.int u1), .val (.int (2 : Int32)), .unset, .unset, .unset, .unset] [(.int (5 : Int32)), (.int (u1 &&& (2147483647 : Int32)))])) t
      refine iremM X0 hx rfl (hb hby at_12) rfl (by decide) ?_
      show Steps p.tables e below (s₁.setTop (mkF m 13 #[.val (.int u0), .val (.int u1), .val (.int (2 : Int32)), .unset, .unset, .unset, .unset] [(.int ((u1 &&& (2147483647 : Int32)) % (5 : Int32)))])) t
      refine XS.istoreN X0.here hx rfl (hb hby at_13) rfl (l' := #[.val (.int u0), .val (.int u1), .val (.int (2 : Int32)), .val (.int ((u1 &&& (2147483647 : Int32)) % (5 : Int32))), .unset, .unset, .unset]) rfl ?_
      exact k
    refine OFin.go S155 ?_
    obtain ⟨kk156, hkk156⟩ : ∃ z : Int32, z = ((u1 &&& (2147483647 : Int32)) % (5 : Int32)) := ⟨_, rfl⟩
    rw [← hkk156]
    rcases (own_k5 _ hkk156 : kk156 = (0 : Int32) ∨ kk156 = (1 : Int32) ∨ kk156 = (2 : Int32) ∨ kk156 = (3 : Int32) ∨ kk156 = (4 : Int32)) with hkk156'  | hkk156'  | hkk156'  | hkk156'  | hkk156' 
    ·
      subst hkk156'
      show OFin p e below _ (s₁.setTop (mkF m 14 #[.val (.int u0), .val (.int u1), .val (.int (2 : Int32)), .val (.int (0 : Int32)), .unset, .unset, .unset] []))
      have S157 : ∀ t, Steps p.tables e below (s₁.setTop (mkF m 15 #[.val (.int u0), .val (.int u1), .val (.int (2 : Int32)), .val (.int (0 : Int32)), .unset, .unset, .unset] [(.int (2 : Int32))])) t → Steps p.tables e below (s₁.setTop (mkF m 14 #[.val (.int u0), .val (.int u1), .val (.int (2 : Int32)), .val (.int (0 : Int32)), .unset, .unset, .unset] [])) t := by
        intro t k
        show Steps p.tables e below (s₁.setTop (mkF m 14 #[.val (.int u0), .val (.int u1), .val (.int (2 : Int32)), .val (.int (0 : Int32)), .unset, .unset, .unset] [])) t
        refine XS.iloadN X0.here hx rfl (hb hby at_14) rfl ?_
        exact k
      refine OFin.go S157 ?_
      obtain ⟨_, T158, Lc158, X158, hQ158, st158⟩ := callQ X0 hx hZ (y := (⟨"com/example/stowage/stowage/ip/ProfileFollowsPinLaw", "pick", "(I)Lcom/example/stowage/stowage/ip/Profile;"⟩ : MethodName)) hown (hw _ (List.mem_of_getElem? (i := 1) rfl)) (hw _ (List.mem_of_getElem? (i := 2) rfl)) (hw _ (List.mem_of_getElem? (i := 3) rfl)) (hw _ (List.mem_of_getElem? (i := 4) rfl)) (by decide) (argsL := [(.int (2 : Int32))]) (rest := []) (rm1 l Z a0 hw [] (2 : Int32) aC aS aT aA h0 n0 Z0 SaC SaS SaT SaA) (W := 0) (by decide) (by decide) e0 (g := (mkF m 15 #[.val (.int u0), .val (.int u1), .val (.int (2 : Int32)), .val (.int (0 : Int32)), .unset, .unset, .unset] [(.int (2 : Int32))])) rfl (by rw [hml]; rfl) (lenOf pd_0 rfl) rfl (by show 2 * 0 + _ ≤ _; exact Nat.le_of_eq rfl) (hb hby at_15) (Nat.le_of_ble_eq_true rfl) (Nat.le_of_ble_eq_true rfl)
      obtain ⟨rfl, N158q, e158⟩ := hQ158
      have N158 := Fr.app N0 N158q
      refine OFin.go st158 ?_
      show OFin p e below _ (T158.setTop (mkF m 18 #[.val (.int u0), .val (.int u1), .val (.int (2 : Int32)), .val (.int (0 : Int32)), .unset, .unset, .unset] [(.ref aT)]))
      have S159 : ∀ t, Steps p.tables e below (T158.setTop (mkF m 21 #[.val (.int u0), .val (.int u1), .val (.int (2 : Int32)), .val (.int (0 : Int32)), .val (.ref aT), .unset, .unset] [(.int (0 : Int32))])) t → Steps p.tables e below (T158.setTop (mkF m 18 #[.val (.int u0), .val (.int u1), .val (.int (2 : Int32)), .val (.int (0 : Int32)), .unset, .unset, .unset] [(.ref aT)])) t := by
        intro t k
        show Steps p.tables e below (T158.setTop (mkF m 18 #[.val (.int u0), .val (.int u1), .val (.int (2 : Int32)), .val (.int (0 : Int32)), .unset, .unset, .unset] [(.ref aT)])) t
        refine XS.astore X158.here hx rfl (hb hby at_18) rfl rfl (l' := #[.val (.int u0), .val (.int u1), .val (.int (2 : Int32)), .val (.int (0 : Int32)), .val (.ref aT), .unset, .unset]) rfl ?_
        show Steps p.tables e below (T158.setTop (mkF m 20 #[.val (.int u0), .val (.int u1), .val (.int (2 : Int32)), .val (.int (0 : Int32)), .val (.ref aT), .unset, .unset] [])) t
        refine XS.iloadN X158.here hx rfl (hb hby at_20) rfl ?_
        exact k
      refine OFin.go S159 ?_
      obtain ⟨_, T160, Lc160, X160, hQ160, st160⟩ := callQ X158 hx hZ (y := (⟨"com/example/stowage/stowage/ip/ProfileFollowsPinLaw", "pick", "(I)Lcom/example/stowage/stowage/ip/Profile;"⟩ : MethodName)) hown (hw _ (List.mem_of_getElem? (i := 1) rfl)) (hw _ (List.mem_of_getElem? (i := 2) rfl)) (hw _ (List.mem_of_getElem? (i := 3) rfl)) (hw _ (List.mem_of_getElem? (i := 4) rfl)) (by decide) (argsL := [(.int (0 : Int32))]) (rest := []) (rm1 l Z a0 hw [] (0 : Int32) aC aS aT aA h0 n0 Z0 SaC SaS SaT SaA) (W := 0) (by decide) (by decide) e158 (g := (mkF m 21 #[.val (.int u0), .val (.int u1), .val (.int (2 : Int32)), .val (.int (0 : Int32)), .val (.ref aT), .unset, .unset] [(.int (0 : Int32))])) rfl (by rw [hml]; rfl) (lenOf pd_0 rfl) rfl (by show 2 * 0 + _ ≤ _; exact Nat.le_of_eq rfl) (hb hby at_21) (Nat.le_of_ble_eq_true rfl) (Nat.le_of_ble_eq_true rfl)
      obtain ⟨rfl, N160q, e160⟩ := hQ160
      have N160 := Fr.app N158 N160q
      refine OFin.go st160 ?_
      show OFin p e below _ (T160.setTop (mkF m 24 #[.val (.int u0), .val (.int u1), .val (.int (2 : Int32)), .val (.int (0 : Int32)), .val (.ref aT), .unset, .unset] [(.ref aC)]))
      have S161 : ∀ t, Steps p.tables e below (T160.setTop (mkF m 28 #[.val (.int u0), .val (.int u1), .val (.int (2 : Int32)), .val (.int (0 : Int32)), .val (.ref aT), .val (.ref aC), .unset] [(.int (4 : Int32)), (.int (0 : Int32))])) t → Steps p.tables e below (T160.setTop (mkF m 24 #[.val (.int u0), .val (.int u1), .val (.int (2 : Int32)), .val (.int (0 : Int32)), .val (.ref aT), .unset, .unset] [(.ref aC)])) t := by
        intro t k
        show Steps p.tables e below (T160.setTop (mkF m 24 #[.val (.int u0), .val (.int u1), .val (.int (2 : Int32)), .val (.int (0 : Int32)), .val (.ref aT), .unset, .unset] [(.ref aC)])) t
        refine XS.astore X160.here hx rfl (hb hby at_24) rfl rfl (l' := #[.val (.int u0), .val (.int u1), .val (.int (2 : Int32)), .val (.int (0 : Int32)), .val (.ref aT), .val (.ref aC), .unset]) rfl ?_
        show Steps p.tables e below (T160.setTop (mkF m 26 #[.val (.int u0), .val (.int u1), .val (.int (2 : Int32)), .val (.int (0 : Int32)), .val (.ref aT), .val (.ref aC), .unset] [])) t
        refine XS.iloadN X160.here hx rfl (hb hby at_26) rfl ?_
        show Steps p.tables e below (T160.setTop (mkF m 27 #[.val (.int u0), .val (.int u1), .val (.int (2 : Int32)), .val (.int (0 : Int32)), .val (.ref aT), .val (.ref aC), .unset] [(.int (0 : Int32))])) t
        refine XS.iconst X160.here hx rfl (hb hby at_27) ?_
        exact k
      refine OFin.go S161 ?_
      have S162 : ∀ t, Steps p.tables e below (T160.setTop (mkF m 37 #[.val (.int u0), .val (.int u1), .val (.int (2 : Int32)), .val (.int (0 : Int32)), .val (.ref aT), .val (.ref aC), .unset] [])) t → Steps p.tables e below (T160.setTop (mkF m 28 #[.val (.int u0), .val (.int u1), .val (.int (2 : Int32)), .val (.int (0 : Int32)), .val (.ref aT), .val (.ref aC), .unset] [(.int (4 : Int32)), (.int (0 : Int32))])) t := by
        intro t k
        show Steps p.tables e below (T160.setTop (mkF m 28 #[.val (.int u0), .val (.int u1), .val (.int (2 : Int32)), .val (.int (0 : Int32)), .val (.ref aT), .val (.ref aC), .unset] [(.int (4 : Int32)), (.int (0 : Int32))])) t
        refine XS.icmpYes X160.here hx rfl (pc0 := 28) (pc' := 37) rfl (hb hby at_28) rfl (feq (by decide)).2 (by decide) (by decide) ?_
        exact k
      refine OFin.go S162 ?_
      have S163 : ∀ t, Steps p.tables e below (T160.setTop (mkF m 39 #[.val (.int u0), .val (.int u1), .val (.int (2 : Int32)), .val (.int (0 : Int32)), .val (.ref aT), .val (.ref aC), .unset] [(.int (0 : Int32)), (.int (2 : Int32))])) t → Steps p.tables e below (T160.setTop (mkF m 37 #[.val (.int u0), .val (.int u1), .val (.int (2 : Int32)), .val (.int (0 : Int32)), .val (.ref aT), .val (.ref aC), .unset] [])) t := by
        intro t k
        show Steps p.tables e below (T160.setTop (mkF m 37 #[.val (.int u0), .val (.int u1), .val (.int (2 : Int32)), .val (.int (0 : Int32)), .val (.ref aT), .val (.ref aC), .unset] [])) t
        refine XS.iloadN X160.here hx rfl (hb hby at_37) rfl ?_
        show Steps p.tables e below (T160.setTop (mkF m 38 #[.val (.int u0), .val (.int u1), .val (.int (2 : Int32)), .val (.int (0 : Int32)), .val (.ref aT), .val (.ref aC), .unset] [(.int (2 : Int32))])) t
        refine XS.iloadN X160.here hx rfl (hb hby at_38) rfl ?_
        exact k
      refine OFin.go S163 ?_
      have S164 : ∀ t, Steps p.tables e below (T160.setTop (mkF m 48 #[.val (.int u0), .val (.int u1), .val (.int (2 : Int32)), .val (.int (0 : Int32)), .val (.ref aT), .val (.ref aC), .unset] [])) t → Steps p.tables e below (T160.setTop (mkF m 39 #[.val (.int u0), .val (.int u1), .val (.int (2 : Int32)), .val (.int (0 : Int32)), .val (.ref aT), .val (.ref aC), .unset] [(.int (0 : Int32)), (.int (2 : Int32))])) t := by
        intro t k
        show Steps p.tables e below (T160.setTop (mkF m 39 #[.val (.int u0), .val (.int u1), .val (.int (2 : Int32)), .val (.int (0 : Int32)), .val (.ref aT), .val (.ref aC), .unset] [(.int (0 : Int32)), (.int (2 : Int32))])) t
        refine XS.icmpYes X160.here hx rfl (pc0 := 39) (pc' := 48) rfl (hb hby at_39) rfl (feq (by decide)).2 (by decide) (by decide) ?_
        exact k
      refine OFin.go S164 ?_
      have S165 : ∀ t, Steps p.tables e below (T160.setTop (mkF m 49 #[.val (.int u0), .val (.int u1), .val (.int (2 : Int32)), .val (.int (0 : Int32)), .val (.ref aT), .val (.ref aC), .unset] [(.int (0 : Int32))])) t → Steps p.tables e below (T160.setTop (mkF m 48 #[.val (.int u0), .val (.int u1), .val (.int (2 : Int32)), .val (.int (0 : Int32)), .val (.ref aT), .val (.ref aC), .unset] [])) t := by
        intro t k
        show Steps p.tables e below (T160.setTop (mkF m 48 #[.val (.int u0), .val (.int u1), .val (.int (2 : Int32)), .val (.int (0 : Int32)), .val (.ref aT), .val (.ref aC), .unset] [])) t
        refine XS.iloadN X160.here hx rfl (hb hby at_48) rfl ?_
        exact k
      refine OFin.go S165 ?_
      have S166 : ∀ t, Steps p.tables e below (T160.setTop (mkF m 52 #[.val (.int u0), .val (.int u1), .val (.int (2 : Int32)), .val (.int (0 : Int32)), .val (.ref aT), .val (.ref aC), .unset] [])) t → Steps p.tables e below (T160.setTop (mkF m 49 #[.val (.int u0), .val (.int u1), .val (.int (2 : Int32)), .val (.int (0 : Int32)), .val (.ref aT), .val (.ref aC), .unset] [(.int (0 : Int32))])) t := by
        intro t k
        show Steps p.tables e below (T160.setTop (mkF m 49 #[.val (.int u0), .val (.int u1), .val (.int (2 : Int32)), .val (.int (0 : Int32)), .val (.ref aT), .val (.ref aC), .unset] [(.int (0 : Int32))])) t
        refine XS.ifNo X160.here hx rfl (hb hby at_49) rfl ((if0 _ _).trans (teq (by decide)).2) ?_
        exact k
      refine OFin.go S166 ?_
      have S167 : ∀ t, Steps p.tables e below (T160.setTop (mkF m 81 #[.val (.int u0), .val (.int u1), .val (.int (2 : Int32)), .val (.int (0 : Int32)), .val (.ref aT), .val (.ref aC), .val (.int (1 : Int32))] [(.ref aC), (.ref aT)])) t → Steps p.tables e below (T160.setTop (mkF m 52 #[.val (.int u0), .val (.int u1), .val (.int (2 : Int32)), .val (.int (0 : Int32)), .val (.ref aT), .val (.ref aC), .unset] [])) t := by
        intro t k
        show Steps p.tables e below (T160.setTop (mkF m 52 #[.val (.int u0), .val (.int u1), .val (.int (2 : Int32)), .val (.int (0 : Int32)), .val (.ref aT), .val (.ref aC), .unset] [])) t
        refine XS.iconst X160.here hx rfl (hb hby at_52) ?_
        show Steps p.tables e below (T160.setTop (mkF m 53 #[.val (.int u0), .val (.int u1), .val (.int (2 : Int32)), .val (.int (0 : Int32)), .val (.ref aT), .val (.ref aC), .unset] [(.int (1 : Int32))])) t
        refine XS.istore X160.here hx rfl (hb hby at_53) rfl (l' := #[.val (.int u0), .val (.int u1), .val (.int (2 : Int32)), .val (.int (0 : Int32)), .val (.ref aT), .val (.ref aC), .val (.int (1 : Int32))]) rfl ?_
        show Steps p.tables e below (T160.setTop (mkF m 55 #[.val (.int u0), .val (.int u1), .val (.int (2 : Int32)), .val (.int (0 : Int32)), .val (.ref aT), .val (.ref aC), .val (.int (1 : Int32))] [])) t
        refine XS.goto X160.here hx rfl (pc0 := 55) (pc' := 77) rfl (hb hby at_55) (by decide) (by decide) ?_
        show Steps p.tables e below (T160.setTop (mkF m 77 #[.val (.int u0), .val (.int u1), .val (.int (2 : Int32)), .val (.int (0 : Int32)), .val (.ref aT), .val (.ref aC), .val (.int (1 : Int32))] [])) t
        refine XS.aload X160.here hx rfl (hb hby at_77) rfl rfl ?_
        show Steps p.tables e below (T160.setTop (mkF m 79 #[.val (.int u0), .val (.int u1), .val (.int (2 : Int32)), .val (.int (0 : Int32)), .val (.ref aT), .val (.ref aC), .val (.int (1 : Int32))] [(.ref aT)])) t
        refine XS.aload X160.here hx rfl (hb hby at_79) rfl rfl ?_
        exact k
      refine OFin.go S167 ?_
      obtain ⟨_, T168, Lc168, X168, hQ168, st168⟩ := virtQ X160 hx hZ (y := (⟨"com/example/stowage/stowage/ip/Profile", "follows", "(Lcom/example/stowage/stowage/ip/Profile;)Z"⟩ : MethodName)) hown (hw _ (List.mem_of_getElem? (i := 10) rfl)) (hw _ (List.mem_of_getElem? (i := 12) rfl)) (hw _ (List.mem_of_getElem? (i := 6) rfl)) (hw _ (List.mem_of_getElem? (i := 14) rfl)) (hw _ (List.mem_of_getElem? (i := 11) rfl)) (hw _ (List.mem_of_getElem? (i := 13) rfl)) (by decide) EaT (argsL := [(.ref aC)]) (rest := []) (rm2_2_0 l Z a0 hw [] aC aS aT aA h0 n0 Z0 FaC FaS FaT FaA naCaS naCaT naCaA naSaT naSaA naTaA) (W := 0) (by decide) (by decide) e160 (g := (mkF m 81 #[.val (.int u0), .val (.int u1), .val (.int (2 : Int32)), .val (.int (0 : Int32)), .val (.ref aT), .val (.ref aC), .val (.int (1 : Int32))] [(.ref aC), (.ref aT)])) rfl (by rw [hml]; rfl) (lenOf pd_1 rfl) rfl (by show 2 * 0 + _ ≤ _; exact Nat.le_of_eq rfl) (hb hby at_81) (Nat.le_of_ble_eq_true rfl) (Nat.le_of_ble_eq_true rfl)
      obtain ⟨rfl, N168q, e168⟩ := hQ168
      have N168 := Fr.app N160 N168q
      refine OFin.go st168 ?_
      show OFin p e below _ (T168.setTop (mkF m 84 #[.val (.int u0), .val (.int u1), .val (.int (2 : Int32)), .val (.int (0 : Int32)), .val (.ref aT), .val (.ref aC), .val (.int (1 : Int32))] [(.int (1 : Int32))]))
      have S169 : ∀ t, Steps p.tables e below (T168.setTop (mkF m 86 #[.val (.int u0), .val (.int u1), .val (.int (2 : Int32)), .val (.int (0 : Int32)), .val (.ref aT), .val (.ref aC), .val (.int (1 : Int32))] [(.int (1 : Int32)), (.int (1 : Int32))])) t → Steps p.tables e below (T168.setTop (mkF m 84 #[.val (.int u0), .val (.int u1), .val (.int (2 : Int32)), .val (.int (0 : Int32)), .val (.ref aT), .val (.ref aC), .val (.int (1 : Int32))] [(.int (1 : Int32))])) t := by
        intro t k
        show Steps p.tables e below (T168.setTop (mkF m 84 #[.val (.int u0), .val (.int u1), .val (.int (2 : Int32)), .val (.int (0 : Int32)), .val (.ref aT), .val (.ref aC), .val (.int (1 : Int32))] [(.int (1 : Int32))])) t
        refine XS.iload X168.here hx rfl (hb hby at_84) rfl ?_
        exact k
      refine OFin.go S169 ?_
      have S170 : ∀ t, Steps p.tables e below (T168.setTop (mkF m 89 #[.val (.int u0), .val (.int u1), .val (.int (2 : Int32)), .val (.int (0 : Int32)), .val (.ref aT), .val (.ref aC), .val (.int (1 : Int32))] [])) t → Steps p.tables e below (T168.setTop (mkF m 86 #[.val (.int u0), .val (.int u1), .val (.int (2 : Int32)), .val (.int (0 : Int32)), .val (.ref aT), .val (.ref aC), .val (.int (1 : Int32))] [(.int (1 : Int32)), (.int (1 : Int32))])) t := by
        intro t k
        show Steps p.tables e below (T168.setTop (mkF m 86 #[.val (.int u0), .val (.int u1), .val (.int (2 : Int32)), .val (.int (0 : Int32)), .val (.ref aT), .val (.ref aC), .val (.int (1 : Int32))] [(.int (1 : Int32)), (.int (1 : Int32))])) t
        refine XS.icmpNo X168.here hx rfl (hb hby at_86) rfl (teq (by decide)).2 ?_
        exact k
      refine OFin.go S170 ?_
      have S171 : ∀ t, Steps p.tables e below (T168.setTop (mkF m 94 #[.val (.int u0), .val (.int u1), .val (.int (2 : Int32)), .val (.int (0 : Int32)), .val (.ref aT), .val (.ref aC), .val (.int (1 : Int32))] [(.int (1 : Int32))])) t → Steps p.tables e below (T168.setTop (mkF m 89 #[.val (.int u0), .val (.int u1), .val (.int (2 : Int32)), .val (.int (0 : Int32)), .val (.ref aT), .val (.ref aC), .val (.int (1 : Int32))] [])) t := by
        intro t k
        show Steps p.tables e below (T168.setTop (mkF m 89 #[.val (.int u0), .val (.int u1), .val (.int (2 : Int32)), .val (.int (0 : Int32)), .val (.ref aT), .val (.ref aC), .val (.int (1 : Int32))] [])) t
        refine XS.iconst X168.here hx rfl (hb hby at_89) ?_
        show Steps p.tables e below (T168.setTop (mkF m 90 #[.val (.int u0), .val (.int u1), .val (.int (2 : Int32)), .val (.int (0 : Int32)), .val (.ref aT), .val (.ref aC), .val (.int (1 : Int32))] [(.int (1 : Int32))])) t
        refine XS.goto X168.here hx rfl (pc0 := 90) (pc' := 94) rfl (hb hby at_90) (by decide) (by decide) ?_
        exact k
      refine OFin.go S171 ?_
      exact finZ X168 hx Bd.notSynchronized (t := .boolean) Bd.returns (by simp) (hb hby at_94) rfl (by decide) (by decide) (⟨congrArg (fun z => some (Value.int z)) (rfl : (1 : Int32) = (1 : Int32)), N168⟩)
    ·
      subst hkk156'
      show OFin p e below _ (s₁.setTop (mkF m 14 #[.val (.int u0), .val (.int u1), .val (.int (2 : Int32)), .val (.int (1 : Int32)), .unset, .unset, .unset] []))
      have S172 : ∀ t, Steps p.tables e below (s₁.setTop (mkF m 15 #[.val (.int u0), .val (.int u1), .val (.int (2 : Int32)), .val (.int (1 : Int32)), .unset, .unset, .unset] [(.int (2 : Int32))])) t → Steps p.tables e below (s₁.setTop (mkF m 14 #[.val (.int u0), .val (.int u1), .val (.int (2 : Int32)), .val (.int (1 : Int32)), .unset, .unset, .unset] [])) t := by
        intro t k
        show Steps p.tables e below (s₁.setTop (mkF m 14 #[.val (.int u0), .val (.int u1), .val (.int (2 : Int32)), .val (.int (1 : Int32)), .unset, .unset, .unset] [])) t
        refine XS.iloadN X0.here hx rfl (hb hby at_14) rfl ?_
        exact k
      refine OFin.go S172 ?_
      obtain ⟨_, T173, Lc173, X173, hQ173, st173⟩ := callQ X0 hx hZ (y := (⟨"com/example/stowage/stowage/ip/ProfileFollowsPinLaw", "pick", "(I)Lcom/example/stowage/stowage/ip/Profile;"⟩ : MethodName)) hown (hw _ (List.mem_of_getElem? (i := 1) rfl)) (hw _ (List.mem_of_getElem? (i := 2) rfl)) (hw _ (List.mem_of_getElem? (i := 3) rfl)) (hw _ (List.mem_of_getElem? (i := 4) rfl)) (by decide) (argsL := [(.int (2 : Int32))]) (rest := []) (rm1 l Z a0 hw [] (2 : Int32) aC aS aT aA h0 n0 Z0 SaC SaS SaT SaA) (W := 0) (by decide) (by decide) e0 (g := (mkF m 15 #[.val (.int u0), .val (.int u1), .val (.int (2 : Int32)), .val (.int (1 : Int32)), .unset, .unset, .unset] [(.int (2 : Int32))])) rfl (by rw [hml]; rfl) (lenOf pd_0 rfl) rfl (by show 2 * 0 + _ ≤ _; exact Nat.le_of_eq rfl) (hb hby at_15) (Nat.le_of_ble_eq_true rfl) (Nat.le_of_ble_eq_true rfl)
      obtain ⟨rfl, N173q, e173⟩ := hQ173
      have N173 := Fr.app N0 N173q
      refine OFin.go st173 ?_
      show OFin p e below _ (T173.setTop (mkF m 18 #[.val (.int u0), .val (.int u1), .val (.int (2 : Int32)), .val (.int (1 : Int32)), .unset, .unset, .unset] [(.ref aT)]))
      have S174 : ∀ t, Steps p.tables e below (T173.setTop (mkF m 21 #[.val (.int u0), .val (.int u1), .val (.int (2 : Int32)), .val (.int (1 : Int32)), .val (.ref aT), .unset, .unset] [(.int (1 : Int32))])) t → Steps p.tables e below (T173.setTop (mkF m 18 #[.val (.int u0), .val (.int u1), .val (.int (2 : Int32)), .val (.int (1 : Int32)), .unset, .unset, .unset] [(.ref aT)])) t := by
        intro t k
        show Steps p.tables e below (T173.setTop (mkF m 18 #[.val (.int u0), .val (.int u1), .val (.int (2 : Int32)), .val (.int (1 : Int32)), .unset, .unset, .unset] [(.ref aT)])) t
        refine XS.astore X173.here hx rfl (hb hby at_18) rfl rfl (l' := #[.val (.int u0), .val (.int u1), .val (.int (2 : Int32)), .val (.int (1 : Int32)), .val (.ref aT), .unset, .unset]) rfl ?_
        show Steps p.tables e below (T173.setTop (mkF m 20 #[.val (.int u0), .val (.int u1), .val (.int (2 : Int32)), .val (.int (1 : Int32)), .val (.ref aT), .unset, .unset] [])) t
        refine XS.iloadN X173.here hx rfl (hb hby at_20) rfl ?_
        exact k
      refine OFin.go S174 ?_
      obtain ⟨_, T175, Lc175, X175, hQ175, st175⟩ := callQ X173 hx hZ (y := (⟨"com/example/stowage/stowage/ip/ProfileFollowsPinLaw", "pick", "(I)Lcom/example/stowage/stowage/ip/Profile;"⟩ : MethodName)) hown (hw _ (List.mem_of_getElem? (i := 1) rfl)) (hw _ (List.mem_of_getElem? (i := 2) rfl)) (hw _ (List.mem_of_getElem? (i := 3) rfl)) (hw _ (List.mem_of_getElem? (i := 4) rfl)) (by decide) (argsL := [(.int (1 : Int32))]) (rest := []) (rm1 l Z a0 hw [] (1 : Int32) aC aS aT aA h0 n0 Z0 SaC SaS SaT SaA) (W := 0) (by decide) (by decide) e173 (g := (mkF m 21 #[.val (.int u0), .val (.int u1), .val (.int (2 : Int32)), .val (.int (1 : Int32)), .val (.ref aT), .unset, .unset] [(.int (1 : Int32))])) rfl (by rw [hml]; rfl) (lenOf pd_0 rfl) rfl (by show 2 * 0 + _ ≤ _; exact Nat.le_of_eq rfl) (hb hby at_21) (Nat.le_of_ble_eq_true rfl) (Nat.le_of_ble_eq_true rfl)
      obtain ⟨rfl, N175q, e175⟩ := hQ175
      have N175 := Fr.app N173 N175q
      refine OFin.go st175 ?_
      show OFin p e below _ (T175.setTop (mkF m 24 #[.val (.int u0), .val (.int u1), .val (.int (2 : Int32)), .val (.int (1 : Int32)), .val (.ref aT), .unset, .unset] [(.ref aS)]))
      have S176 : ∀ t, Steps p.tables e below (T175.setTop (mkF m 28 #[.val (.int u0), .val (.int u1), .val (.int (2 : Int32)), .val (.int (1 : Int32)), .val (.ref aT), .val (.ref aS), .unset] [(.int (4 : Int32)), (.int (1 : Int32))])) t → Steps p.tables e below (T175.setTop (mkF m 24 #[.val (.int u0), .val (.int u1), .val (.int (2 : Int32)), .val (.int (1 : Int32)), .val (.ref aT), .unset, .unset] [(.ref aS)])) t := by
        intro t k
        show Steps p.tables e below (T175.setTop (mkF m 24 #[.val (.int u0), .val (.int u1), .val (.int (2 : Int32)), .val (.int (1 : Int32)), .val (.ref aT), .unset, .unset] [(.ref aS)])) t
        refine XS.astore X175.here hx rfl (hb hby at_24) rfl rfl (l' := #[.val (.int u0), .val (.int u1), .val (.int (2 : Int32)), .val (.int (1 : Int32)), .val (.ref aT), .val (.ref aS), .unset]) rfl ?_
        show Steps p.tables e below (T175.setTop (mkF m 26 #[.val (.int u0), .val (.int u1), .val (.int (2 : Int32)), .val (.int (1 : Int32)), .val (.ref aT), .val (.ref aS), .unset] [])) t
        refine XS.iloadN X175.here hx rfl (hb hby at_26) rfl ?_
        show Steps p.tables e below (T175.setTop (mkF m 27 #[.val (.int u0), .val (.int u1), .val (.int (2 : Int32)), .val (.int (1 : Int32)), .val (.ref aT), .val (.ref aS), .unset] [(.int (1 : Int32))])) t
        refine XS.iconst X175.here hx rfl (hb hby at_27) ?_
        exact k
      refine OFin.go S176 ?_
      have S177 : ∀ t, Steps p.tables e below (T175.setTop (mkF m 37 #[.val (.int u0), .val (.int u1), .val (.int (2 : Int32)), .val (.int (1 : Int32)), .val (.ref aT), .val (.ref aS), .unset] [])) t → Steps p.tables e below (T175.setTop (mkF m 28 #[.val (.int u0), .val (.int u1), .val (.int (2 : Int32)), .val (.int (1 : Int32)), .val (.ref aT), .val (.ref aS), .unset] [(.int (4 : Int32)), (.int (1 : Int32))])) t := by
        intro t k
        show Steps p.tables e below (T175.setTop (mkF m 28 #[.val (.int u0), .val (.int u1), .val (.int (2 : Int32)), .val (.int (1 : Int32)), .val (.ref aT), .val (.ref aS), .unset] [(.int (4 : Int32)), (.int (1 : Int32))])) t
        refine XS.icmpYes X175.here hx rfl (pc0 := 28) (pc' := 37) rfl (hb hby at_28) rfl (feq (by decide)).2 (by decide) (by decide) ?_
        exact k
      refine OFin.go S177 ?_
      have S178 : ∀ t, Steps p.tables e below (T175.setTop (mkF m 39 #[.val (.int u0), .val (.int u1), .val (.int (2 : Int32)), .val (.int (1 : Int32)), .val (.ref aT), .val (.ref aS), .unset] [(.int (1 : Int32)), (.int (2 : Int32))])) t → Steps p.tables e below (T175.setTop (mkF m 37 #[.val (.int u0), .val (.int u1), .val (.int (2 : Int32)), .val (.int (1 : Int32)), .val (.ref aT), .val (.ref aS), .unset] [])) t := by
        intro t k
        show Steps p.tables e below (T175.setTop (mkF m 37 #[.val (.int u0), .val (.int u1), .val (.int (2 : Int32)), .val (.int (1 : Int32)), .val (.ref aT), .val (.ref aS), .unset] [])) t
        refine XS.iloadN X175.here hx rfl (hb hby at_37) rfl ?_
        show Steps p.tables e below (T175.setTop (mkF m 38 #[.val (.int u0), .val (.int u1), .val (.int (2 : Int32)), .val (.int (1 : Int32)), .val (.ref aT), .val (.ref aS), .unset] [(.int (2 : Int32))])) t
        refine XS.iloadN X175.here hx rfl (hb hby at_38) rfl ?_
        exact k
      refine OFin.go S178 ?_
      have S179 : ∀ t, Steps p.tables e below (T175.setTop (mkF m 48 #[.val (.int u0), .val (.int u1), .val (.int (2 : Int32)), .val (.int (1 : Int32)), .val (.ref aT), .val (.ref aS), .unset] [])) t → Steps p.tables e below (T175.setTop (mkF m 39 #[.val (.int u0), .val (.int u1), .val (.int (2 : Int32)), .val (.int (1 : Int32)), .val (.ref aT), .val (.ref aS), .unset] [(.int (1 : Int32)), (.int (2 : Int32))])) t := by
        intro t k
        show Steps p.tables e below (T175.setTop (mkF m 39 #[.val (.int u0), .val (.int u1), .val (.int (2 : Int32)), .val (.int (1 : Int32)), .val (.ref aT), .val (.ref aS), .unset] [(.int (1 : Int32)), (.int (2 : Int32))])) t
        refine XS.icmpYes X175.here hx rfl (pc0 := 39) (pc' := 48) rfl (hb hby at_39) rfl (feq (by decide)).2 (by decide) (by decide) ?_
        exact k
      refine OFin.go S179 ?_
      have S180 : ∀ t, Steps p.tables e below (T175.setTop (mkF m 49 #[.val (.int u0), .val (.int u1), .val (.int (2 : Int32)), .val (.int (1 : Int32)), .val (.ref aT), .val (.ref aS), .unset] [(.int (1 : Int32))])) t → Steps p.tables e below (T175.setTop (mkF m 48 #[.val (.int u0), .val (.int u1), .val (.int (2 : Int32)), .val (.int (1 : Int32)), .val (.ref aT), .val (.ref aS), .unset] [])) t := by
        intro t k
        show Steps p.tables e below (T175.setTop (mkF m 48 #[.val (.int u0), .val (.int u1), .val (.int (2 : Int32)), .val (.int (1 : Int32)), .val (.ref aT), .val (.ref aS), .unset] [])) t
        refine XS.iloadN X175.here hx rfl (hb hby at_48) rfl ?_
        exact k
      refine OFin.go S180 ?_
      have S181 : ∀ t, Steps p.tables e below (T175.setTop (mkF m 58 #[.val (.int u0), .val (.int u1), .val (.int (2 : Int32)), .val (.int (1 : Int32)), .val (.ref aT), .val (.ref aS), .unset] [])) t → Steps p.tables e below (T175.setTop (mkF m 49 #[.val (.int u0), .val (.int u1), .val (.int (2 : Int32)), .val (.int (1 : Int32)), .val (.ref aT), .val (.ref aS), .unset] [(.int (1 : Int32))])) t := by
        intro t k
        show Steps p.tables e below (T175.setTop (mkF m 49 #[.val (.int u0), .val (.int u1), .val (.int (2 : Int32)), .val (.int (1 : Int32)), .val (.ref aT), .val (.ref aS), .unset] [(.int (1 : Int32))])) t
        refine XS.ifYes X175.here hx rfl (pc0 := 49) (pc' := 58) rfl (hb hby at_49) rfl ((if0 _ _).trans (feq (by decide)).2) (by decide) (by decide) ?_
        exact k
      refine OFin.go S181 ?_
      have S182 : ∀ t, Steps p.tables e below (T175.setTop (mkF m 60 #[.val (.int u0), .val (.int u1), .val (.int (2 : Int32)), .val (.int (1 : Int32)), .val (.ref aT), .val (.ref aS), .unset] [(.int (2 : Int32)), (.int (2 : Int32))])) t → Steps p.tables e below (T175.setTop (mkF m 58 #[.val (.int u0), .val (.int u1), .val (.int (2 : Int32)), .val (.int (1 : Int32)), .val (.ref aT), .val (.ref aS), .unset] [])) t := by
        intro t k
        show Steps p.tables e below (T175.setTop (mkF m 58 #[.val (.int u0), .val (.int u1), .val (.int (2 : Int32)), .val (.int (1 : Int32)), .val (.ref aT), .val (.ref aS), .unset] [])) t
        refine XS.iloadN X175.here hx rfl (hb hby at_58) rfl ?_
        show Steps p.tables e below (T175.setTop (mkF m 59 #[.val (.int u0), .val (.int u1), .val (.int (2 : Int32)), .val (.int (1 : Int32)), .val (.ref aT), .val (.ref aS), .unset] [(.int (2 : Int32))])) t
        refine XS.iconst X175.here hx rfl (hb hby at_59) ?_
        exact k
      refine OFin.go S182 ?_
      have S183 : ∀ t, Steps p.tables e below (T175.setTop (mkF m 63 #[.val (.int u0), .val (.int u1), .val (.int (2 : Int32)), .val (.int (1 : Int32)), .val (.ref aT), .val (.ref aS), .unset] [])) t → Steps p.tables e below (T175.setTop (mkF m 60 #[.val (.int u0), .val (.int u1), .val (.int (2 : Int32)), .val (.int (1 : Int32)), .val (.ref aT), .val (.ref aS), .unset] [(.int (2 : Int32)), (.int (2 : Int32))])) t := by
        intro t k
        show Steps p.tables e below (T175.setTop (mkF m 60 #[.val (.int u0), .val (.int u1), .val (.int (2 : Int32)), .val (.int (1 : Int32)), .val (.ref aT), .val (.ref aS), .unset] [(.int (2 : Int32)), (.int (2 : Int32))])) t
        refine XS.icmpNo X175.here hx rfl (hb hby at_60) rfl (teq (by decide)).2 ?_
        exact k
      refine OFin.go S183 ?_
      have S184 : ∀ t, Steps p.tables e below (T175.setTop (mkF m 65 #[.val (.int u0), .val (.int u1), .val (.int (2 : Int32)), .val (.int (1 : Int32)), .val (.ref aT), .val (.ref aS), .unset] [(.int (1 : Int32)), (.int (1 : Int32))])) t → Steps p.tables e below (T175.setTop (mkF m 63 #[.val (.int u0), .val (.int u1), .val (.int (2 : Int32)), .val (.int (1 : Int32)), .val (.ref aT), .val (.ref aS), .unset] [])) t := by
        intro t k
        show Steps p.tables e below (T175.setTop (mkF m 63 #[.val (.int u0), .val (.int u1), .val (.int (2 : Int32)), .val (.int (1 : Int32)), .val (.ref aT), .val (.ref aS), .unset] [])) t
        refine XS.iloadN X175.here hx rfl (hb hby at_63) rfl ?_
        show Steps p.tables e below (T175.setTop (mkF m 64 #[.val (.int u0), .val (.int u1), .val (.int (2 : Int32)), .val (.int (1 : Int32)), .val (.ref aT), .val (.ref aS), .unset] [(.int (1 : Int32))])) t
        refine XS.iconst X175.here hx rfl (hb hby at_64) ?_
        exact k
      refine OFin.go S184 ?_
      have S185 : ∀ t, Steps p.tables e below (T175.setTop (mkF m 68 #[.val (.int u0), .val (.int u1), .val (.int (2 : Int32)), .val (.int (1 : Int32)), .val (.ref aT), .val (.ref aS), .unset] [])) t → Steps p.tables e below (T175.setTop (mkF m 65 #[.val (.int u0), .val (.int u1), .val (.int (2 : Int32)), .val (.int (1 : Int32)), .val (.ref aT), .val (.ref aS), .unset] [(.int (1 : Int32)), (.int (1 : Int32))])) t := by
        intro t k
        show Steps p.tables e below (T175.setTop (mkF m 65 #[.val (.int u0), .val (.int u1), .val (.int (2 : Int32)), .val (.int (1 : Int32)), .val (.ref aT), .val (.ref aS), .unset] [(.int (1 : Int32)), (.int (1 : Int32))])) t
        refine XS.icmpNo X175.here hx rfl (hb hby at_65) rfl (teq (by decide)).2 ?_
        exact k
      refine OFin.go S185 ?_
      have S186 : ∀ t, Steps p.tables e below (T175.setTop (mkF m 81 #[.val (.int u0), .val (.int u1), .val (.int (2 : Int32)), .val (.int (1 : Int32)), .val (.ref aT), .val (.ref aS), .val (.int (1 : Int32))] [(.ref aS), (.ref aT)])) t → Steps p.tables e below (T175.setTop (mkF m 68 #[.val (.int u0), .val (.int u1), .val (.int (2 : Int32)), .val (.int (1 : Int32)), .val (.ref aT), .val (.ref aS), .unset] [])) t := by
        intro t k
        show Steps p.tables e below (T175.setTop (mkF m 68 #[.val (.int u0), .val (.int u1), .val (.int (2 : Int32)), .val (.int (1 : Int32)), .val (.ref aT), .val (.ref aS), .unset] [])) t
        refine XS.iconst X175.here hx rfl (hb hby at_68) ?_
        show Steps p.tables e below (T175.setTop (mkF m 69 #[.val (.int u0), .val (.int u1), .val (.int (2 : Int32)), .val (.int (1 : Int32)), .val (.ref aT), .val (.ref aS), .unset] [(.int (1 : Int32))])) t
        refine XS.istore X175.here hx rfl (hb hby at_69) rfl (l' := #[.val (.int u0), .val (.int u1), .val (.int (2 : Int32)), .val (.int (1 : Int32)), .val (.ref aT), .val (.ref aS), .val (.int (1 : Int32))]) rfl ?_
        show Steps p.tables e below (T175.setTop (mkF m 71 #[.val (.int u0), .val (.int u1), .val (.int (2 : Int32)), .val (.int (1 : Int32)), .val (.ref aT), .val (.ref aS), .val (.int (1 : Int32))] [])) t
        refine XS.goto X175.here hx rfl (pc0 := 71) (pc' := 77) rfl (hb hby at_71) (by decide) (by decide) ?_
        show Steps p.tables e below (T175.setTop (mkF m 77 #[.val (.int u0), .val (.int u1), .val (.int (2 : Int32)), .val (.int (1 : Int32)), .val (.ref aT), .val (.ref aS), .val (.int (1 : Int32))] [])) t
        refine XS.aload X175.here hx rfl (hb hby at_77) rfl rfl ?_
        show Steps p.tables e below (T175.setTop (mkF m 79 #[.val (.int u0), .val (.int u1), .val (.int (2 : Int32)), .val (.int (1 : Int32)), .val (.ref aT), .val (.ref aS), .val (.int (1 : Int32))] [(.ref aT)])) t
        refine XS.aload X175.here hx rfl (hb hby at_79) rfl rfl ?_
        exact k
      refine OFin.go S186 ?_
      obtain ⟨_, T187, Lc187, X187, hQ187, st187⟩ := virtQ X175 hx hZ (y := (⟨"com/example/stowage/stowage/ip/Profile", "follows", "(Lcom/example/stowage/stowage/ip/Profile;)Z"⟩ : MethodName)) hown (hw _ (List.mem_of_getElem? (i := 10) rfl)) (hw _ (List.mem_of_getElem? (i := 12) rfl)) (hw _ (List.mem_of_getElem? (i := 6) rfl)) (hw _ (List.mem_of_getElem? (i := 14) rfl)) (hw _ (List.mem_of_getElem? (i := 11) rfl)) (hw _ (List.mem_of_getElem? (i := 13) rfl)) (by decide) EaT (argsL := [(.ref aS)]) (rest := []) (rm2_2_1 l Z a0 hw [] aC aS aT aA h0 n0 Z0 FaC FaS FaT FaA naCaS naCaT naCaA naSaT naSaA naTaA) (W := 0) (by decide) (by decide) e175 (g := (mkF m 81 #[.val (.int u0), .val (.int u1), .val (.int (2 : Int32)), .val (.int (1 : Int32)), .val (.ref aT), .val (.ref aS), .val (.int (1 : Int32))] [(.ref aS), (.ref aT)])) rfl (by rw [hml]; rfl) (lenOf pd_1 rfl) rfl (by show 2 * 0 + _ ≤ _; exact Nat.le_of_eq rfl) (hb hby at_81) (Nat.le_of_ble_eq_true rfl) (Nat.le_of_ble_eq_true rfl)
      obtain ⟨rfl, N187q, e187⟩ := hQ187
      have N187 := Fr.app N175 N187q
      refine OFin.go st187 ?_
      show OFin p e below _ (T187.setTop (mkF m 84 #[.val (.int u0), .val (.int u1), .val (.int (2 : Int32)), .val (.int (1 : Int32)), .val (.ref aT), .val (.ref aS), .val (.int (1 : Int32))] [(.int (1 : Int32))]))
      have S188 : ∀ t, Steps p.tables e below (T187.setTop (mkF m 86 #[.val (.int u0), .val (.int u1), .val (.int (2 : Int32)), .val (.int (1 : Int32)), .val (.ref aT), .val (.ref aS), .val (.int (1 : Int32))] [(.int (1 : Int32)), (.int (1 : Int32))])) t → Steps p.tables e below (T187.setTop (mkF m 84 #[.val (.int u0), .val (.int u1), .val (.int (2 : Int32)), .val (.int (1 : Int32)), .val (.ref aT), .val (.ref aS), .val (.int (1 : Int32))] [(.int (1 : Int32))])) t := by
        intro t k
        show Steps p.tables e below (T187.setTop (mkF m 84 #[.val (.int u0), .val (.int u1), .val (.int (2 : Int32)), .val (.int (1 : Int32)), .val (.ref aT), .val (.ref aS), .val (.int (1 : Int32))] [(.int (1 : Int32))])) t
        refine XS.iload X187.here hx rfl (hb hby at_84) rfl ?_
        exact k
      refine OFin.go S188 ?_
      have S189 : ∀ t, Steps p.tables e below (T187.setTop (mkF m 89 #[.val (.int u0), .val (.int u1), .val (.int (2 : Int32)), .val (.int (1 : Int32)), .val (.ref aT), .val (.ref aS), .val (.int (1 : Int32))] [])) t → Steps p.tables e below (T187.setTop (mkF m 86 #[.val (.int u0), .val (.int u1), .val (.int (2 : Int32)), .val (.int (1 : Int32)), .val (.ref aT), .val (.ref aS), .val (.int (1 : Int32))] [(.int (1 : Int32)), (.int (1 : Int32))])) t := by
        intro t k
        show Steps p.tables e below (T187.setTop (mkF m 86 #[.val (.int u0), .val (.int u1), .val (.int (2 : Int32)), .val (.int (1 : Int32)), .val (.ref aT), .val (.ref aS), .val (.int (1 : Int32))] [(.int (1 : Int32)), (.int (1 : Int32))])) t
        refine XS.icmpNo X187.here hx rfl (hb hby at_86) rfl (teq (by decide)).2 ?_
        exact k
      refine OFin.go S189 ?_
      have S190 : ∀ t, Steps p.tables e below (T187.setTop (mkF m 94 #[.val (.int u0), .val (.int u1), .val (.int (2 : Int32)), .val (.int (1 : Int32)), .val (.ref aT), .val (.ref aS), .val (.int (1 : Int32))] [(.int (1 : Int32))])) t → Steps p.tables e below (T187.setTop (mkF m 89 #[.val (.int u0), .val (.int u1), .val (.int (2 : Int32)), .val (.int (1 : Int32)), .val (.ref aT), .val (.ref aS), .val (.int (1 : Int32))] [])) t := by
        intro t k
        show Steps p.tables e below (T187.setTop (mkF m 89 #[.val (.int u0), .val (.int u1), .val (.int (2 : Int32)), .val (.int (1 : Int32)), .val (.ref aT), .val (.ref aS), .val (.int (1 : Int32))] [])) t
        refine XS.iconst X187.here hx rfl (hb hby at_89) ?_
        show Steps p.tables e below (T187.setTop (mkF m 90 #[.val (.int u0), .val (.int u1), .val (.int (2 : Int32)), .val (.int (1 : Int32)), .val (.ref aT), .val (.ref aS), .val (.int (1 : Int32))] [(.int (1 : Int32))])) t
        refine XS.goto X187.here hx rfl (pc0 := 90) (pc' := 94) rfl (hb hby at_90) (by decide) (by decide) ?_
        exact k
      refine OFin.go S190 ?_
      exact finZ X187 hx Bd.notSynchronized (t := .boolean) Bd.returns (by simp) (hb hby at_94) rfl (by decide) (by decide) (⟨congrArg (fun z => some (Value.int z)) (rfl : (1 : Int32) = (1 : Int32)), N187⟩)
    ·
      subst hkk156'
      show OFin p e below _ (s₁.setTop (mkF m 14 #[.val (.int u0), .val (.int u1), .val (.int (2 : Int32)), .val (.int (2 : Int32)), .unset, .unset, .unset] []))
      have S191 : ∀ t, Steps p.tables e below (s₁.setTop (mkF m 15 #[.val (.int u0), .val (.int u1), .val (.int (2 : Int32)), .val (.int (2 : Int32)), .unset, .unset, .unset] [(.int (2 : Int32))])) t → Steps p.tables e below (s₁.setTop (mkF m 14 #[.val (.int u0), .val (.int u1), .val (.int (2 : Int32)), .val (.int (2 : Int32)), .unset, .unset, .unset] [])) t := by
        intro t k
        show Steps p.tables e below (s₁.setTop (mkF m 14 #[.val (.int u0), .val (.int u1), .val (.int (2 : Int32)), .val (.int (2 : Int32)), .unset, .unset, .unset] [])) t
        refine XS.iloadN X0.here hx rfl (hb hby at_14) rfl ?_
        exact k
      refine OFin.go S191 ?_
      obtain ⟨_, T192, Lc192, X192, hQ192, st192⟩ := callQ X0 hx hZ (y := (⟨"com/example/stowage/stowage/ip/ProfileFollowsPinLaw", "pick", "(I)Lcom/example/stowage/stowage/ip/Profile;"⟩ : MethodName)) hown (hw _ (List.mem_of_getElem? (i := 1) rfl)) (hw _ (List.mem_of_getElem? (i := 2) rfl)) (hw _ (List.mem_of_getElem? (i := 3) rfl)) (hw _ (List.mem_of_getElem? (i := 4) rfl)) (by decide) (argsL := [(.int (2 : Int32))]) (rest := []) (rm1 l Z a0 hw [] (2 : Int32) aC aS aT aA h0 n0 Z0 SaC SaS SaT SaA) (W := 0) (by decide) (by decide) e0 (g := (mkF m 15 #[.val (.int u0), .val (.int u1), .val (.int (2 : Int32)), .val (.int (2 : Int32)), .unset, .unset, .unset] [(.int (2 : Int32))])) rfl (by rw [hml]; rfl) (lenOf pd_0 rfl) rfl (by show 2 * 0 + _ ≤ _; exact Nat.le_of_eq rfl) (hb hby at_15) (Nat.le_of_ble_eq_true rfl) (Nat.le_of_ble_eq_true rfl)
      obtain ⟨rfl, N192q, e192⟩ := hQ192
      have N192 := Fr.app N0 N192q
      refine OFin.go st192 ?_
      show OFin p e below _ (T192.setTop (mkF m 18 #[.val (.int u0), .val (.int u1), .val (.int (2 : Int32)), .val (.int (2 : Int32)), .unset, .unset, .unset] [(.ref aT)]))
      have S193 : ∀ t, Steps p.tables e below (T192.setTop (mkF m 21 #[.val (.int u0), .val (.int u1), .val (.int (2 : Int32)), .val (.int (2 : Int32)), .val (.ref aT), .unset, .unset] [(.int (2 : Int32))])) t → Steps p.tables e below (T192.setTop (mkF m 18 #[.val (.int u0), .val (.int u1), .val (.int (2 : Int32)), .val (.int (2 : Int32)), .unset, .unset, .unset] [(.ref aT)])) t := by
        intro t k
        show Steps p.tables e below (T192.setTop (mkF m 18 #[.val (.int u0), .val (.int u1), .val (.int (2 : Int32)), .val (.int (2 : Int32)), .unset, .unset, .unset] [(.ref aT)])) t
        refine XS.astore X192.here hx rfl (hb hby at_18) rfl rfl (l' := #[.val (.int u0), .val (.int u1), .val (.int (2 : Int32)), .val (.int (2 : Int32)), .val (.ref aT), .unset, .unset]) rfl ?_
        show Steps p.tables e below (T192.setTop (mkF m 20 #[.val (.int u0), .val (.int u1), .val (.int (2 : Int32)), .val (.int (2 : Int32)), .val (.ref aT), .unset, .unset] [])) t
        refine XS.iloadN X192.here hx rfl (hb hby at_20) rfl ?_
        exact k
      refine OFin.go S193 ?_
      obtain ⟨_, T194, Lc194, X194, hQ194, st194⟩ := callQ X192 hx hZ (y := (⟨"com/example/stowage/stowage/ip/ProfileFollowsPinLaw", "pick", "(I)Lcom/example/stowage/stowage/ip/Profile;"⟩ : MethodName)) hown (hw _ (List.mem_of_getElem? (i := 1) rfl)) (hw _ (List.mem_of_getElem? (i := 2) rfl)) (hw _ (List.mem_of_getElem? (i := 3) rfl)) (hw _ (List.mem_of_getElem? (i := 4) rfl)) (by decide) (argsL := [(.int (2 : Int32))]) (rest := []) (rm1 l Z a0 hw [] (2 : Int32) aC aS aT aA h0 n0 Z0 SaC SaS SaT SaA) (W := 0) (by decide) (by decide) e192 (g := (mkF m 21 #[.val (.int u0), .val (.int u1), .val (.int (2 : Int32)), .val (.int (2 : Int32)), .val (.ref aT), .unset, .unset] [(.int (2 : Int32))])) rfl (by rw [hml]; rfl) (lenOf pd_0 rfl) rfl (by show 2 * 0 + _ ≤ _; exact Nat.le_of_eq rfl) (hb hby at_21) (Nat.le_of_ble_eq_true rfl) (Nat.le_of_ble_eq_true rfl)
      obtain ⟨rfl, N194q, e194⟩ := hQ194
      have N194 := Fr.app N192 N194q
      refine OFin.go st194 ?_
      show OFin p e below _ (T194.setTop (mkF m 24 #[.val (.int u0), .val (.int u1), .val (.int (2 : Int32)), .val (.int (2 : Int32)), .val (.ref aT), .unset, .unset] [(.ref aT)]))
      have S195 : ∀ t, Steps p.tables e below (T194.setTop (mkF m 28 #[.val (.int u0), .val (.int u1), .val (.int (2 : Int32)), .val (.int (2 : Int32)), .val (.ref aT), .val (.ref aT), .unset] [(.int (4 : Int32)), (.int (2 : Int32))])) t → Steps p.tables e below (T194.setTop (mkF m 24 #[.val (.int u0), .val (.int u1), .val (.int (2 : Int32)), .val (.int (2 : Int32)), .val (.ref aT), .unset, .unset] [(.ref aT)])) t := by
        intro t k
        show Steps p.tables e below (T194.setTop (mkF m 24 #[.val (.int u0), .val (.int u1), .val (.int (2 : Int32)), .val (.int (2 : Int32)), .val (.ref aT), .unset, .unset] [(.ref aT)])) t
        refine XS.astore X194.here hx rfl (hb hby at_24) rfl rfl (l' := #[.val (.int u0), .val (.int u1), .val (.int (2 : Int32)), .val (.int (2 : Int32)), .val (.ref aT), .val (.ref aT), .unset]) rfl ?_
        show Steps p.tables e below (T194.setTop (mkF m 26 #[.val (.int u0), .val (.int u1), .val (.int (2 : Int32)), .val (.int (2 : Int32)), .val (.ref aT), .val (.ref aT), .unset] [])) t
        refine XS.iloadN X194.here hx rfl (hb hby at_26) rfl ?_
        show Steps p.tables e below (T194.setTop (mkF m 27 #[.val (.int u0), .val (.int u1), .val (.int (2 : Int32)), .val (.int (2 : Int32)), .val (.ref aT), .val (.ref aT), .unset] [(.int (2 : Int32))])) t
        refine XS.iconst X194.here hx rfl (hb hby at_27) ?_
        exact k
      refine OFin.go S195 ?_
      have S196 : ∀ t, Steps p.tables e below (T194.setTop (mkF m 37 #[.val (.int u0), .val (.int u1), .val (.int (2 : Int32)), .val (.int (2 : Int32)), .val (.ref aT), .val (.ref aT), .unset] [])) t → Steps p.tables e below (T194.setTop (mkF m 28 #[.val (.int u0), .val (.int u1), .val (.int (2 : Int32)), .val (.int (2 : Int32)), .val (.ref aT), .val (.ref aT), .unset] [(.int (4 : Int32)), (.int (2 : Int32))])) t := by
        intro t k
        show Steps p.tables e below (T194.setTop (mkF m 28 #[.val (.int u0), .val (.int u1), .val (.int (2 : Int32)), .val (.int (2 : Int32)), .val (.ref aT), .val (.ref aT), .unset] [(.int (4 : Int32)), (.int (2 : Int32))])) t
        refine XS.icmpYes X194.here hx rfl (pc0 := 28) (pc' := 37) rfl (hb hby at_28) rfl (feq (by decide)).2 (by decide) (by decide) ?_
        exact k
      refine OFin.go S196 ?_
      have S197 : ∀ t, Steps p.tables e below (T194.setTop (mkF m 39 #[.val (.int u0), .val (.int u1), .val (.int (2 : Int32)), .val (.int (2 : Int32)), .val (.ref aT), .val (.ref aT), .unset] [(.int (2 : Int32)), (.int (2 : Int32))])) t → Steps p.tables e below (T194.setTop (mkF m 37 #[.val (.int u0), .val (.int u1), .val (.int (2 : Int32)), .val (.int (2 : Int32)), .val (.ref aT), .val (.ref aT), .unset] [])) t := by
        intro t k
        show Steps p.tables e below (T194.setTop (mkF m 37 #[.val (.int u0), .val (.int u1), .val (.int (2 : Int32)), .val (.int (2 : Int32)), .val (.ref aT), .val (.ref aT), .unset] [])) t
        refine XS.iloadN X194.here hx rfl (hb hby at_37) rfl ?_
        show Steps p.tables e below (T194.setTop (mkF m 38 #[.val (.int u0), .val (.int u1), .val (.int (2 : Int32)), .val (.int (2 : Int32)), .val (.ref aT), .val (.ref aT), .unset] [(.int (2 : Int32))])) t
        refine XS.iloadN X194.here hx rfl (hb hby at_38) rfl ?_
        exact k
      refine OFin.go S197 ?_
      have S198 : ∀ t, Steps p.tables e below (T194.setTop (mkF m 42 #[.val (.int u0), .val (.int u1), .val (.int (2 : Int32)), .val (.int (2 : Int32)), .val (.ref aT), .val (.ref aT), .unset] [])) t → Steps p.tables e below (T194.setTop (mkF m 39 #[.val (.int u0), .val (.int u1), .val (.int (2 : Int32)), .val (.int (2 : Int32)), .val (.ref aT), .val (.ref aT), .unset] [(.int (2 : Int32)), (.int (2 : Int32))])) t := by
        intro t k
        show Steps p.tables e below (T194.setTop (mkF m 39 #[.val (.int u0), .val (.int u1), .val (.int (2 : Int32)), .val (.int (2 : Int32)), .val (.ref aT), .val (.ref aT), .unset] [(.int (2 : Int32)), (.int (2 : Int32))])) t
        refine XS.icmpNo X194.here hx rfl (hb hby at_39) rfl (teq (by decide)).2 ?_
        exact k
      refine OFin.go S198 ?_
      have S199 : ∀ t, Steps p.tables e below (T194.setTop (mkF m 81 #[.val (.int u0), .val (.int u1), .val (.int (2 : Int32)), .val (.int (2 : Int32)), .val (.ref aT), .val (.ref aT), .val (.int (1 : Int32))] [(.ref aT), (.ref aT)])) t → Steps p.tables e below (T194.setTop (mkF m 42 #[.val (.int u0), .val (.int u1), .val (.int (2 : Int32)), .val (.int (2 : Int32)), .val (.ref aT), .val (.ref aT), .unset] [])) t := by
        intro t k
        show Steps p.tables e below (T194.setTop (mkF m 42 #[.val (.int u0), .val (.int u1), .val (.int (2 : Int32)), .val (.int (2 : Int32)), .val (.ref aT), .val (.ref aT), .unset] [])) t
        refine XS.iconst X194.here hx rfl (hb hby at_42) ?_
        show Steps p.tables e below (T194.setTop (mkF m 43 #[.val (.int u0), .val (.int u1), .val (.int (2 : Int32)), .val (.int (2 : Int32)), .val (.ref aT), .val (.ref aT), .unset] [(.int (1 : Int32))])) t
        refine XS.istore X194.here hx rfl (hb hby at_43) rfl (l' := #[.val (.int u0), .val (.int u1), .val (.int (2 : Int32)), .val (.int (2 : Int32)), .val (.ref aT), .val (.ref aT), .val (.int (1 : Int32))]) rfl ?_
        show Steps p.tables e below (T194.setTop (mkF m 45 #[.val (.int u0), .val (.int u1), .val (.int (2 : Int32)), .val (.int (2 : Int32)), .val (.ref aT), .val (.ref aT), .val (.int (1 : Int32))] [])) t
        refine XS.goto X194.here hx rfl (pc0 := 45) (pc' := 77) rfl (hb hby at_45) (by decide) (by decide) ?_
        show Steps p.tables e below (T194.setTop (mkF m 77 #[.val (.int u0), .val (.int u1), .val (.int (2 : Int32)), .val (.int (2 : Int32)), .val (.ref aT), .val (.ref aT), .val (.int (1 : Int32))] [])) t
        refine XS.aload X194.here hx rfl (hb hby at_77) rfl rfl ?_
        show Steps p.tables e below (T194.setTop (mkF m 79 #[.val (.int u0), .val (.int u1), .val (.int (2 : Int32)), .val (.int (2 : Int32)), .val (.ref aT), .val (.ref aT), .val (.int (1 : Int32))] [(.ref aT)])) t
        refine XS.aload X194.here hx rfl (hb hby at_79) rfl rfl ?_
        exact k
      refine OFin.go S199 ?_
      obtain ⟨_, T200, Lc200, X200, hQ200, st200⟩ := virtQ X194 hx hZ (y := (⟨"com/example/stowage/stowage/ip/Profile", "follows", "(Lcom/example/stowage/stowage/ip/Profile;)Z"⟩ : MethodName)) hown (hw _ (List.mem_of_getElem? (i := 10) rfl)) (hw _ (List.mem_of_getElem? (i := 12) rfl)) (hw _ (List.mem_of_getElem? (i := 6) rfl)) (hw _ (List.mem_of_getElem? (i := 14) rfl)) (hw _ (List.mem_of_getElem? (i := 11) rfl)) (hw _ (List.mem_of_getElem? (i := 13) rfl)) (by decide) EaT (argsL := [(.ref aT)]) (rest := []) (rm2_2_2 l Z a0 hw [] aC aS aT aA h0 n0 Z0 FaC FaS FaT FaA naCaS naCaT naCaA naSaT naSaA naTaA) (W := 0) (by decide) (by decide) e194 (g := (mkF m 81 #[.val (.int u0), .val (.int u1), .val (.int (2 : Int32)), .val (.int (2 : Int32)), .val (.ref aT), .val (.ref aT), .val (.int (1 : Int32))] [(.ref aT), (.ref aT)])) rfl (by rw [hml]; rfl) (lenOf pd_1 rfl) rfl (by show 2 * 0 + _ ≤ _; exact Nat.le_of_eq rfl) (hb hby at_81) (Nat.le_of_ble_eq_true rfl) (Nat.le_of_ble_eq_true rfl)
      obtain ⟨rfl, N200q, e200⟩ := hQ200
      have N200 := Fr.app N194 N200q
      refine OFin.go st200 ?_
      show OFin p e below _ (T200.setTop (mkF m 84 #[.val (.int u0), .val (.int u1), .val (.int (2 : Int32)), .val (.int (2 : Int32)), .val (.ref aT), .val (.ref aT), .val (.int (1 : Int32))] [(.int (1 : Int32))]))
      have S201 : ∀ t, Steps p.tables e below (T200.setTop (mkF m 86 #[.val (.int u0), .val (.int u1), .val (.int (2 : Int32)), .val (.int (2 : Int32)), .val (.ref aT), .val (.ref aT), .val (.int (1 : Int32))] [(.int (1 : Int32)), (.int (1 : Int32))])) t → Steps p.tables e below (T200.setTop (mkF m 84 #[.val (.int u0), .val (.int u1), .val (.int (2 : Int32)), .val (.int (2 : Int32)), .val (.ref aT), .val (.ref aT), .val (.int (1 : Int32))] [(.int (1 : Int32))])) t := by
        intro t k
        show Steps p.tables e below (T200.setTop (mkF m 84 #[.val (.int u0), .val (.int u1), .val (.int (2 : Int32)), .val (.int (2 : Int32)), .val (.ref aT), .val (.ref aT), .val (.int (1 : Int32))] [(.int (1 : Int32))])) t
        refine XS.iload X200.here hx rfl (hb hby at_84) rfl ?_
        exact k
      refine OFin.go S201 ?_
      have S202 : ∀ t, Steps p.tables e below (T200.setTop (mkF m 89 #[.val (.int u0), .val (.int u1), .val (.int (2 : Int32)), .val (.int (2 : Int32)), .val (.ref aT), .val (.ref aT), .val (.int (1 : Int32))] [])) t → Steps p.tables e below (T200.setTop (mkF m 86 #[.val (.int u0), .val (.int u1), .val (.int (2 : Int32)), .val (.int (2 : Int32)), .val (.ref aT), .val (.ref aT), .val (.int (1 : Int32))] [(.int (1 : Int32)), (.int (1 : Int32))])) t := by
        intro t k
        show Steps p.tables e below (T200.setTop (mkF m 86 #[.val (.int u0), .val (.int u1), .val (.int (2 : Int32)), .val (.int (2 : Int32)), .val (.ref aT), .val (.ref aT), .val (.int (1 : Int32))] [(.int (1 : Int32)), (.int (1 : Int32))])) t
        refine XS.icmpNo X200.here hx rfl (hb hby at_86) rfl (teq (by decide)).2 ?_
        exact k
      refine OFin.go S202 ?_
      have S203 : ∀ t, Steps p.tables e below (T200.setTop (mkF m 94 #[.val (.int u0), .val (.int u1), .val (.int (2 : Int32)), .val (.int (2 : Int32)), .val (.ref aT), .val (.ref aT), .val (.int (1 : Int32))] [(.int (1 : Int32))])) t → Steps p.tables e below (T200.setTop (mkF m 89 #[.val (.int u0), .val (.int u1), .val (.int (2 : Int32)), .val (.int (2 : Int32)), .val (.ref aT), .val (.ref aT), .val (.int (1 : Int32))] [])) t := by
        intro t k
        show Steps p.tables e below (T200.setTop (mkF m 89 #[.val (.int u0), .val (.int u1), .val (.int (2 : Int32)), .val (.int (2 : Int32)), .val (.ref aT), .val (.ref aT), .val (.int (1 : Int32))] [])) t
        refine XS.iconst X200.here hx rfl (hb hby at_89) ?_
        show Steps p.tables e below (T200.setTop (mkF m 90 #[.val (.int u0), .val (.int u1), .val (.int (2 : Int32)), .val (.int (2 : Int32)), .val (.ref aT), .val (.ref aT), .val (.int (1 : Int32))] [(.int (1 : Int32))])) t
        refine XS.goto X200.here hx rfl (pc0 := 90) (pc' := 94) rfl (hb hby at_90) (by decide) (by decide) ?_
        exact k
      refine OFin.go S203 ?_
      exact finZ X200 hx Bd.notSynchronized (t := .boolean) Bd.returns (by simp) (hb hby at_94) rfl (by decide) (by decide) (⟨congrArg (fun z => some (Value.int z)) (rfl : (1 : Int32) = (1 : Int32)), N200⟩)
    ·
      subst hkk156'
      show OFin p e below _ (s₁.setTop (mkF m 14 #[.val (.int u0), .val (.int u1), .val (.int (2 : Int32)), .val (.int (3 : Int32)), .unset, .unset, .unset] []))
      have S204 : ∀ t, Steps p.tables e below (s₁.setTop (mkF m 15 #[.val (.int u0), .val (.int u1), .val (.int (2 : Int32)), .val (.int (3 : Int32)), .unset, .unset, .unset] [(.int (2 : Int32))])) t → Steps p.tables e below (s₁.setTop (mkF m 14 #[.val (.int u0), .val (.int u1), .val (.int (2 : Int32)), .val (.int (3 : Int32)), .unset, .unset, .unset] [])) t := by
        intro t k
        show Steps p.tables e below (s₁.setTop (mkF m 14 #[.val (.int u0), .val (.int u1), .val (.int (2 : Int32)), .val (.int (3 : Int32)), .unset, .unset, .unset] [])) t
        refine XS.iloadN X0.here hx rfl (hb hby at_14) rfl ?_
        exact k
      refine OFin.go S204 ?_
      obtain ⟨_, T205, Lc205, X205, hQ205, st205⟩ := callQ X0 hx hZ (y := (⟨"com/example/stowage/stowage/ip/ProfileFollowsPinLaw", "pick", "(I)Lcom/example/stowage/stowage/ip/Profile;"⟩ : MethodName)) hown (hw _ (List.mem_of_getElem? (i := 1) rfl)) (hw _ (List.mem_of_getElem? (i := 2) rfl)) (hw _ (List.mem_of_getElem? (i := 3) rfl)) (hw _ (List.mem_of_getElem? (i := 4) rfl)) (by decide) (argsL := [(.int (2 : Int32))]) (rest := []) (rm1 l Z a0 hw [] (2 : Int32) aC aS aT aA h0 n0 Z0 SaC SaS SaT SaA) (W := 0) (by decide) (by decide) e0 (g := (mkF m 15 #[.val (.int u0), .val (.int u1), .val (.int (2 : Int32)), .val (.int (3 : Int32)), .unset, .unset, .unset] [(.int (2 : Int32))])) rfl (by rw [hml]; rfl) (lenOf pd_0 rfl) rfl (by show 2 * 0 + _ ≤ _; exact Nat.le_of_eq rfl) (hb hby at_15) (Nat.le_of_ble_eq_true rfl) (Nat.le_of_ble_eq_true rfl)
      obtain ⟨rfl, N205q, e205⟩ := hQ205
      have N205 := Fr.app N0 N205q
      refine OFin.go st205 ?_
      show OFin p e below _ (T205.setTop (mkF m 18 #[.val (.int u0), .val (.int u1), .val (.int (2 : Int32)), .val (.int (3 : Int32)), .unset, .unset, .unset] [(.ref aT)]))
      have S206 : ∀ t, Steps p.tables e below (T205.setTop (mkF m 21 #[.val (.int u0), .val (.int u1), .val (.int (2 : Int32)), .val (.int (3 : Int32)), .val (.ref aT), .unset, .unset] [(.int (3 : Int32))])) t → Steps p.tables e below (T205.setTop (mkF m 18 #[.val (.int u0), .val (.int u1), .val (.int (2 : Int32)), .val (.int (3 : Int32)), .unset, .unset, .unset] [(.ref aT)])) t := by
        intro t k
        show Steps p.tables e below (T205.setTop (mkF m 18 #[.val (.int u0), .val (.int u1), .val (.int (2 : Int32)), .val (.int (3 : Int32)), .unset, .unset, .unset] [(.ref aT)])) t
        refine XS.astore X205.here hx rfl (hb hby at_18) rfl rfl (l' := #[.val (.int u0), .val (.int u1), .val (.int (2 : Int32)), .val (.int (3 : Int32)), .val (.ref aT), .unset, .unset]) rfl ?_
        show Steps p.tables e below (T205.setTop (mkF m 20 #[.val (.int u0), .val (.int u1), .val (.int (2 : Int32)), .val (.int (3 : Int32)), .val (.ref aT), .unset, .unset] [])) t
        refine XS.iloadN X205.here hx rfl (hb hby at_20) rfl ?_
        exact k
      refine OFin.go S206 ?_
      obtain ⟨_, T207, Lc207, X207, hQ207, st207⟩ := callQ X205 hx hZ (y := (⟨"com/example/stowage/stowage/ip/ProfileFollowsPinLaw", "pick", "(I)Lcom/example/stowage/stowage/ip/Profile;"⟩ : MethodName)) hown (hw _ (List.mem_of_getElem? (i := 1) rfl)) (hw _ (List.mem_of_getElem? (i := 2) rfl)) (hw _ (List.mem_of_getElem? (i := 3) rfl)) (hw _ (List.mem_of_getElem? (i := 4) rfl)) (by decide) (argsL := [(.int (3 : Int32))]) (rest := []) (rm1 l Z a0 hw [] (3 : Int32) aC aS aT aA h0 n0 Z0 SaC SaS SaT SaA) (W := 0) (by decide) (by decide) e205 (g := (mkF m 21 #[.val (.int u0), .val (.int u1), .val (.int (2 : Int32)), .val (.int (3 : Int32)), .val (.ref aT), .unset, .unset] [(.int (3 : Int32))])) rfl (by rw [hml]; rfl) (lenOf pd_0 rfl) rfl (by show 2 * 0 + _ ≤ _; exact Nat.le_of_eq rfl) (hb hby at_21) (Nat.le_of_ble_eq_true rfl) (Nat.le_of_ble_eq_true rfl)
      obtain ⟨rfl, N207q, e207⟩ := hQ207
      have N207 := Fr.app N205 N207q
      refine OFin.go st207 ?_
      show OFin p e below _ (T207.setTop (mkF m 24 #[.val (.int u0), .val (.int u1), .val (.int (2 : Int32)), .val (.int (3 : Int32)), .val (.ref aT), .unset, .unset] [(.ref aA)]))
      have S208 : ∀ t, Steps p.tables e below (T207.setTop (mkF m 28 #[.val (.int u0), .val (.int u1), .val (.int (2 : Int32)), .val (.int (3 : Int32)), .val (.ref aT), .val (.ref aA), .unset] [(.int (4 : Int32)), (.int (3 : Int32))])) t → Steps p.tables e below (T207.setTop (mkF m 24 #[.val (.int u0), .val (.int u1), .val (.int (2 : Int32)), .val (.int (3 : Int32)), .val (.ref aT), .unset, .unset] [(.ref aA)])) t := by
        intro t k
        show Steps p.tables e below (T207.setTop (mkF m 24 #[.val (.int u0), .val (.int u1), .val (.int (2 : Int32)), .val (.int (3 : Int32)), .val (.ref aT), .unset, .unset] [(.ref aA)])) t
        refine XS.astore X207.here hx rfl (hb hby at_24) rfl rfl (l' := #[.val (.int u0), .val (.int u1), .val (.int (2 : Int32)), .val (.int (3 : Int32)), .val (.ref aT), .val (.ref aA), .unset]) rfl ?_
        show Steps p.tables e below (T207.setTop (mkF m 26 #[.val (.int u0), .val (.int u1), .val (.int (2 : Int32)), .val (.int (3 : Int32)), .val (.ref aT), .val (.ref aA), .unset] [])) t
        refine XS.iloadN X207.here hx rfl (hb hby at_26) rfl ?_
        show Steps p.tables e below (T207.setTop (mkF m 27 #[.val (.int u0), .val (.int u1), .val (.int (2 : Int32)), .val (.int (3 : Int32)), .val (.ref aT), .val (.ref aA), .unset] [(.int (3 : Int32))])) t
        refine XS.iconst X207.here hx rfl (hb hby at_27) ?_
        exact k
      refine OFin.go S208 ?_
      have S209 : ∀ t, Steps p.tables e below (T207.setTop (mkF m 37 #[.val (.int u0), .val (.int u1), .val (.int (2 : Int32)), .val (.int (3 : Int32)), .val (.ref aT), .val (.ref aA), .unset] [])) t → Steps p.tables e below (T207.setTop (mkF m 28 #[.val (.int u0), .val (.int u1), .val (.int (2 : Int32)), .val (.int (3 : Int32)), .val (.ref aT), .val (.ref aA), .unset] [(.int (4 : Int32)), (.int (3 : Int32))])) t := by
        intro t k
        show Steps p.tables e below (T207.setTop (mkF m 28 #[.val (.int u0), .val (.int u1), .val (.int (2 : Int32)), .val (.int (3 : Int32)), .val (.ref aT), .val (.ref aA), .unset] [(.int (4 : Int32)), (.int (3 : Int32))])) t
        refine XS.icmpYes X207.here hx rfl (pc0 := 28) (pc' := 37) rfl (hb hby at_28) rfl (feq (by decide)).2 (by decide) (by decide) ?_
        exact k
      refine OFin.go S209 ?_
      have S210 : ∀ t, Steps p.tables e below (T207.setTop (mkF m 39 #[.val (.int u0), .val (.int u1), .val (.int (2 : Int32)), .val (.int (3 : Int32)), .val (.ref aT), .val (.ref aA), .unset] [(.int (3 : Int32)), (.int (2 : Int32))])) t → Steps p.tables e below (T207.setTop (mkF m 37 #[.val (.int u0), .val (.int u1), .val (.int (2 : Int32)), .val (.int (3 : Int32)), .val (.ref aT), .val (.ref aA), .unset] [])) t := by
        intro t k
        show Steps p.tables e below (T207.setTop (mkF m 37 #[.val (.int u0), .val (.int u1), .val (.int (2 : Int32)), .val (.int (3 : Int32)), .val (.ref aT), .val (.ref aA), .unset] [])) t
        refine XS.iloadN X207.here hx rfl (hb hby at_37) rfl ?_
        show Steps p.tables e below (T207.setTop (mkF m 38 #[.val (.int u0), .val (.int u1), .val (.int (2 : Int32)), .val (.int (3 : Int32)), .val (.ref aT), .val (.ref aA), .unset] [(.int (2 : Int32))])) t
        refine XS.iloadN X207.here hx rfl (hb hby at_38) rfl ?_
        exact k
      refine OFin.go S210 ?_
      have S211 : ∀ t, Steps p.tables e below (T207.setTop (mkF m 48 #[.val (.int u0), .val (.int u1), .val (.int (2 : Int32)), .val (.int (3 : Int32)), .val (.ref aT), .val (.ref aA), .unset] [])) t → Steps p.tables e below (T207.setTop (mkF m 39 #[.val (.int u0), .val (.int u1), .val (.int (2 : Int32)), .val (.int (3 : Int32)), .val (.ref aT), .val (.ref aA), .unset] [(.int (3 : Int32)), (.int (2 : Int32))])) t := by
        intro t k
        show Steps p.tables e below (T207.setTop (mkF m 39 #[.val (.int u0), .val (.int u1), .val (.int (2 : Int32)), .val (.int (3 : Int32)), .val (.ref aT), .val (.ref aA), .unset] [(.int (3 : Int32)), (.int (2 : Int32))])) t
        refine XS.icmpYes X207.here hx rfl (pc0 := 39) (pc' := 48) rfl (hb hby at_39) rfl (feq (by decide)).2 (by decide) (by decide) ?_
        exact k
      refine OFin.go S211 ?_
      have S212 : ∀ t, Steps p.tables e below (T207.setTop (mkF m 49 #[.val (.int u0), .val (.int u1), .val (.int (2 : Int32)), .val (.int (3 : Int32)), .val (.ref aT), .val (.ref aA), .unset] [(.int (3 : Int32))])) t → Steps p.tables e below (T207.setTop (mkF m 48 #[.val (.int u0), .val (.int u1), .val (.int (2 : Int32)), .val (.int (3 : Int32)), .val (.ref aT), .val (.ref aA), .unset] [])) t := by
        intro t k
        show Steps p.tables e below (T207.setTop (mkF m 48 #[.val (.int u0), .val (.int u1), .val (.int (2 : Int32)), .val (.int (3 : Int32)), .val (.ref aT), .val (.ref aA), .unset] [])) t
        refine XS.iloadN X207.here hx rfl (hb hby at_48) rfl ?_
        exact k
      refine OFin.go S212 ?_
      have S213 : ∀ t, Steps p.tables e below (T207.setTop (mkF m 58 #[.val (.int u0), .val (.int u1), .val (.int (2 : Int32)), .val (.int (3 : Int32)), .val (.ref aT), .val (.ref aA), .unset] [])) t → Steps p.tables e below (T207.setTop (mkF m 49 #[.val (.int u0), .val (.int u1), .val (.int (2 : Int32)), .val (.int (3 : Int32)), .val (.ref aT), .val (.ref aA), .unset] [(.int (3 : Int32))])) t := by
        intro t k
        show Steps p.tables e below (T207.setTop (mkF m 49 #[.val (.int u0), .val (.int u1), .val (.int (2 : Int32)), .val (.int (3 : Int32)), .val (.ref aT), .val (.ref aA), .unset] [(.int (3 : Int32))])) t
        refine XS.ifYes X207.here hx rfl (pc0 := 49) (pc' := 58) rfl (hb hby at_49) rfl ((if0 _ _).trans (feq (by decide)).2) (by decide) (by decide) ?_
        exact k
      refine OFin.go S213 ?_
      have S214 : ∀ t, Steps p.tables e below (T207.setTop (mkF m 60 #[.val (.int u0), .val (.int u1), .val (.int (2 : Int32)), .val (.int (3 : Int32)), .val (.ref aT), .val (.ref aA), .unset] [(.int (2 : Int32)), (.int (2 : Int32))])) t → Steps p.tables e below (T207.setTop (mkF m 58 #[.val (.int u0), .val (.int u1), .val (.int (2 : Int32)), .val (.int (3 : Int32)), .val (.ref aT), .val (.ref aA), .unset] [])) t := by
        intro t k
        show Steps p.tables e below (T207.setTop (mkF m 58 #[.val (.int u0), .val (.int u1), .val (.int (2 : Int32)), .val (.int (3 : Int32)), .val (.ref aT), .val (.ref aA), .unset] [])) t
        refine XS.iloadN X207.here hx rfl (hb hby at_58) rfl ?_
        show Steps p.tables e below (T207.setTop (mkF m 59 #[.val (.int u0), .val (.int u1), .val (.int (2 : Int32)), .val (.int (3 : Int32)), .val (.ref aT), .val (.ref aA), .unset] [(.int (2 : Int32))])) t
        refine XS.iconst X207.here hx rfl (hb hby at_59) ?_
        exact k
      refine OFin.go S214 ?_
      have S215 : ∀ t, Steps p.tables e below (T207.setTop (mkF m 63 #[.val (.int u0), .val (.int u1), .val (.int (2 : Int32)), .val (.int (3 : Int32)), .val (.ref aT), .val (.ref aA), .unset] [])) t → Steps p.tables e below (T207.setTop (mkF m 60 #[.val (.int u0), .val (.int u1), .val (.int (2 : Int32)), .val (.int (3 : Int32)), .val (.ref aT), .val (.ref aA), .unset] [(.int (2 : Int32)), (.int (2 : Int32))])) t := by
        intro t k
        show Steps p.tables e below (T207.setTop (mkF m 60 #[.val (.int u0), .val (.int u1), .val (.int (2 : Int32)), .val (.int (3 : Int32)), .val (.ref aT), .val (.ref aA), .unset] [(.int (2 : Int32)), (.int (2 : Int32))])) t
        refine XS.icmpNo X207.here hx rfl (hb hby at_60) rfl (teq (by decide)).2 ?_
        exact k
      refine OFin.go S215 ?_
      have S216 : ∀ t, Steps p.tables e below (T207.setTop (mkF m 65 #[.val (.int u0), .val (.int u1), .val (.int (2 : Int32)), .val (.int (3 : Int32)), .val (.ref aT), .val (.ref aA), .unset] [(.int (1 : Int32)), (.int (3 : Int32))])) t → Steps p.tables e below (T207.setTop (mkF m 63 #[.val (.int u0), .val (.int u1), .val (.int (2 : Int32)), .val (.int (3 : Int32)), .val (.ref aT), .val (.ref aA), .unset] [])) t := by
        intro t k
        show Steps p.tables e below (T207.setTop (mkF m 63 #[.val (.int u0), .val (.int u1), .val (.int (2 : Int32)), .val (.int (3 : Int32)), .val (.ref aT), .val (.ref aA), .unset] [])) t
        refine XS.iloadN X207.here hx rfl (hb hby at_63) rfl ?_
        show Steps p.tables e below (T207.setTop (mkF m 64 #[.val (.int u0), .val (.int u1), .val (.int (2 : Int32)), .val (.int (3 : Int32)), .val (.ref aT), .val (.ref aA), .unset] [(.int (3 : Int32))])) t
        refine XS.iconst X207.here hx rfl (hb hby at_64) ?_
        exact k
      refine OFin.go S216 ?_
      have S217 : ∀ t, Steps p.tables e below (T207.setTop (mkF m 74 #[.val (.int u0), .val (.int u1), .val (.int (2 : Int32)), .val (.int (3 : Int32)), .val (.ref aT), .val (.ref aA), .unset] [])) t → Steps p.tables e below (T207.setTop (mkF m 65 #[.val (.int u0), .val (.int u1), .val (.int (2 : Int32)), .val (.int (3 : Int32)), .val (.ref aT), .val (.ref aA), .unset] [(.int (1 : Int32)), (.int (3 : Int32))])) t := by
        intro t k
        show Steps p.tables e below (T207.setTop (mkF m 65 #[.val (.int u0), .val (.int u1), .val (.int (2 : Int32)), .val (.int (3 : Int32)), .val (.ref aT), .val (.ref aA), .unset] [(.int (1 : Int32)), (.int (3 : Int32))])) t
        refine XS.icmpYes X207.here hx rfl (pc0 := 65) (pc' := 74) rfl (hb hby at_65) rfl (feq (by decide)).2 (by decide) (by decide) ?_
        exact k
      refine OFin.go S217 ?_
      have S218 : ∀ t, Steps p.tables e below (T207.setTop (mkF m 81 #[.val (.int u0), .val (.int u1), .val (.int (2 : Int32)), .val (.int (3 : Int32)), .val (.ref aT), .val (.ref aA), .val (.int (0 : Int32))] [(.ref aA), (.ref aT)])) t → Steps p.tables e below (T207.setTop (mkF m 74 #[.val (.int u0), .val (.int u1), .val (.int (2 : Int32)), .val (.int (3 : Int32)), .val (.ref aT), .val (.ref aA), .unset] [])) t := by
        intro t k
        show Steps p.tables e below (T207.setTop (mkF m 74 #[.val (.int u0), .val (.int u1), .val (.int (2 : Int32)), .val (.int (3 : Int32)), .val (.ref aT), .val (.ref aA), .unset] [])) t
        refine XS.iconst X207.here hx rfl (hb hby at_74) ?_
        show Steps p.tables e below (T207.setTop (mkF m 75 #[.val (.int u0), .val (.int u1), .val (.int (2 : Int32)), .val (.int (3 : Int32)), .val (.ref aT), .val (.ref aA), .unset] [(.int (0 : Int32))])) t
        refine XS.istore X207.here hx rfl (hb hby at_75) rfl (l' := #[.val (.int u0), .val (.int u1), .val (.int (2 : Int32)), .val (.int (3 : Int32)), .val (.ref aT), .val (.ref aA), .val (.int (0 : Int32))]) rfl ?_
        show Steps p.tables e below (T207.setTop (mkF m 77 #[.val (.int u0), .val (.int u1), .val (.int (2 : Int32)), .val (.int (3 : Int32)), .val (.ref aT), .val (.ref aA), .val (.int (0 : Int32))] [])) t
        refine XS.aload X207.here hx rfl (hb hby at_77) rfl rfl ?_
        show Steps p.tables e below (T207.setTop (mkF m 79 #[.val (.int u0), .val (.int u1), .val (.int (2 : Int32)), .val (.int (3 : Int32)), .val (.ref aT), .val (.ref aA), .val (.int (0 : Int32))] [(.ref aT)])) t
        refine XS.aload X207.here hx rfl (hb hby at_79) rfl rfl ?_
        exact k
      refine OFin.go S218 ?_
      obtain ⟨_, T219, Lc219, X219, hQ219, st219⟩ := virtQ X207 hx hZ (y := (⟨"com/example/stowage/stowage/ip/Profile", "follows", "(Lcom/example/stowage/stowage/ip/Profile;)Z"⟩ : MethodName)) hown (hw _ (List.mem_of_getElem? (i := 10) rfl)) (hw _ (List.mem_of_getElem? (i := 12) rfl)) (hw _ (List.mem_of_getElem? (i := 6) rfl)) (hw _ (List.mem_of_getElem? (i := 14) rfl)) (hw _ (List.mem_of_getElem? (i := 11) rfl)) (hw _ (List.mem_of_getElem? (i := 13) rfl)) (by decide) EaT (argsL := [(.ref aA)]) (rest := []) (rm2_2_3 l Z a0 hw [] aC aS aT aA h0 n0 Z0 FaC FaS FaT FaA naCaS naCaT naCaA naSaT naSaA naTaA) (W := 0) (by decide) (by decide) e207 (g := (mkF m 81 #[.val (.int u0), .val (.int u1), .val (.int (2 : Int32)), .val (.int (3 : Int32)), .val (.ref aT), .val (.ref aA), .val (.int (0 : Int32))] [(.ref aA), (.ref aT)])) rfl (by rw [hml]; rfl) (lenOf pd_1 rfl) rfl (by show 2 * 0 + _ ≤ _; exact Nat.le_of_eq rfl) (hb hby at_81) (Nat.le_of_ble_eq_true rfl) (Nat.le_of_ble_eq_true rfl)
      obtain ⟨rfl, N219q, e219⟩ := hQ219
      have N219 := Fr.app N207 N219q
      refine OFin.go st219 ?_
      show OFin p e below _ (T219.setTop (mkF m 84 #[.val (.int u0), .val (.int u1), .val (.int (2 : Int32)), .val (.int (3 : Int32)), .val (.ref aT), .val (.ref aA), .val (.int (0 : Int32))] [(.int (0 : Int32))]))
      have S220 : ∀ t, Steps p.tables e below (T219.setTop (mkF m 86 #[.val (.int u0), .val (.int u1), .val (.int (2 : Int32)), .val (.int (3 : Int32)), .val (.ref aT), .val (.ref aA), .val (.int (0 : Int32))] [(.int (0 : Int32)), (.int (0 : Int32))])) t → Steps p.tables e below (T219.setTop (mkF m 84 #[.val (.int u0), .val (.int u1), .val (.int (2 : Int32)), .val (.int (3 : Int32)), .val (.ref aT), .val (.ref aA), .val (.int (0 : Int32))] [(.int (0 : Int32))])) t := by
        intro t k
        show Steps p.tables e below (T219.setTop (mkF m 84 #[.val (.int u0), .val (.int u1), .val (.int (2 : Int32)), .val (.int (3 : Int32)), .val (.ref aT), .val (.ref aA), .val (.int (0 : Int32))] [(.int (0 : Int32))])) t
        refine XS.iload X219.here hx rfl (hb hby at_84) rfl ?_
        exact k
      refine OFin.go S220 ?_
      have S221 : ∀ t, Steps p.tables e below (T219.setTop (mkF m 89 #[.val (.int u0), .val (.int u1), .val (.int (2 : Int32)), .val (.int (3 : Int32)), .val (.ref aT), .val (.ref aA), .val (.int (0 : Int32))] [])) t → Steps p.tables e below (T219.setTop (mkF m 86 #[.val (.int u0), .val (.int u1), .val (.int (2 : Int32)), .val (.int (3 : Int32)), .val (.ref aT), .val (.ref aA), .val (.int (0 : Int32))] [(.int (0 : Int32)), (.int (0 : Int32))])) t := by
        intro t k
        show Steps p.tables e below (T219.setTop (mkF m 86 #[.val (.int u0), .val (.int u1), .val (.int (2 : Int32)), .val (.int (3 : Int32)), .val (.ref aT), .val (.ref aA), .val (.int (0 : Int32))] [(.int (0 : Int32)), (.int (0 : Int32))])) t
        refine XS.icmpNo X219.here hx rfl (hb hby at_86) rfl (teq (by decide)).2 ?_
        exact k
      refine OFin.go S221 ?_
      have S222 : ∀ t, Steps p.tables e below (T219.setTop (mkF m 94 #[.val (.int u0), .val (.int u1), .val (.int (2 : Int32)), .val (.int (3 : Int32)), .val (.ref aT), .val (.ref aA), .val (.int (0 : Int32))] [(.int (1 : Int32))])) t → Steps p.tables e below (T219.setTop (mkF m 89 #[.val (.int u0), .val (.int u1), .val (.int (2 : Int32)), .val (.int (3 : Int32)), .val (.ref aT), .val (.ref aA), .val (.int (0 : Int32))] [])) t := by
        intro t k
        show Steps p.tables e below (T219.setTop (mkF m 89 #[.val (.int u0), .val (.int u1), .val (.int (2 : Int32)), .val (.int (3 : Int32)), .val (.ref aT), .val (.ref aA), .val (.int (0 : Int32))] [])) t
        refine XS.iconst X219.here hx rfl (hb hby at_89) ?_
        show Steps p.tables e below (T219.setTop (mkF m 90 #[.val (.int u0), .val (.int u1), .val (.int (2 : Int32)), .val (.int (3 : Int32)), .val (.ref aT), .val (.ref aA), .val (.int (0 : Int32))] [(.int (1 : Int32))])) t
        refine XS.goto X219.here hx rfl (pc0 := 90) (pc' := 94) rfl (hb hby at_90) (by decide) (by decide) ?_
        exact k
      refine OFin.go S222 ?_
      exact finZ X219 hx Bd.notSynchronized (t := .boolean) Bd.returns (by simp) (hb hby at_94) rfl (by decide) (by decide) (⟨congrArg (fun z => some (Value.int z)) (rfl : (1 : Int32) = (1 : Int32)), N219⟩)
    ·
      subst hkk156'
      show OFin p e below _ (s₁.setTop (mkF m 14 #[.val (.int u0), .val (.int u1), .val (.int (2 : Int32)), .val (.int (4 : Int32)), .unset, .unset, .unset] []))
      have S223 : ∀ t, Steps p.tables e below (s₁.setTop (mkF m 15 #[.val (.int u0), .val (.int u1), .val (.int (2 : Int32)), .val (.int (4 : Int32)), .unset, .unset, .unset] [(.int (2 : Int32))])) t → Steps p.tables e below (s₁.setTop (mkF m 14 #[.val (.int u0), .val (.int u1), .val (.int (2 : Int32)), .val (.int (4 : Int32)), .unset, .unset, .unset] [])) t := by
        intro t k
        show Steps p.tables e below (s₁.setTop (mkF m 14 #[.val (.int u0), .val (.int u1), .val (.int (2 : Int32)), .val (.int (4 : Int32)), .unset, .unset, .unset] [])) t
        refine XS.iloadN X0.here hx rfl (hb hby at_14) rfl ?_
        exact k
      refine OFin.go S223 ?_
      obtain ⟨_, T224, Lc224, X224, hQ224, st224⟩ := callQ X0 hx hZ (y := (⟨"com/example/stowage/stowage/ip/ProfileFollowsPinLaw", "pick", "(I)Lcom/example/stowage/stowage/ip/Profile;"⟩ : MethodName)) hown (hw _ (List.mem_of_getElem? (i := 1) rfl)) (hw _ (List.mem_of_getElem? (i := 2) rfl)) (hw _ (List.mem_of_getElem? (i := 3) rfl)) (hw _ (List.mem_of_getElem? (i := 4) rfl)) (by decide) (argsL := [(.int (2 : Int32))]) (rest := []) (rm1 l Z a0 hw [] (2 : Int32) aC aS aT aA h0 n0 Z0 SaC SaS SaT SaA) (W := 0) (by decide) (by decide) e0 (g := (mkF m 15 #[.val (.int u0), .val (.int u1), .val (.int (2 : Int32)), .val (.int (4 : Int32)), .unset, .unset, .unset] [(.int (2 : Int32))])) rfl (by rw [hml]; rfl) (lenOf pd_0 rfl) rfl (by show 2 * 0 + _ ≤ _; exact Nat.le_of_eq rfl) (hb hby at_15) (Nat.le_of_ble_eq_true rfl) (Nat.le_of_ble_eq_true rfl)
      obtain ⟨rfl, N224q, e224⟩ := hQ224
      have N224 := Fr.app N0 N224q
      refine OFin.go st224 ?_
      show OFin p e below _ (T224.setTop (mkF m 18 #[.val (.int u0), .val (.int u1), .val (.int (2 : Int32)), .val (.int (4 : Int32)), .unset, .unset, .unset] [(.ref aT)]))
      have S225 : ∀ t, Steps p.tables e below (T224.setTop (mkF m 21 #[.val (.int u0), .val (.int u1), .val (.int (2 : Int32)), .val (.int (4 : Int32)), .val (.ref aT), .unset, .unset] [(.int (4 : Int32))])) t → Steps p.tables e below (T224.setTop (mkF m 18 #[.val (.int u0), .val (.int u1), .val (.int (2 : Int32)), .val (.int (4 : Int32)), .unset, .unset, .unset] [(.ref aT)])) t := by
        intro t k
        show Steps p.tables e below (T224.setTop (mkF m 18 #[.val (.int u0), .val (.int u1), .val (.int (2 : Int32)), .val (.int (4 : Int32)), .unset, .unset, .unset] [(.ref aT)])) t
        refine XS.astore X224.here hx rfl (hb hby at_18) rfl rfl (l' := #[.val (.int u0), .val (.int u1), .val (.int (2 : Int32)), .val (.int (4 : Int32)), .val (.ref aT), .unset, .unset]) rfl ?_
        show Steps p.tables e below (T224.setTop (mkF m 20 #[.val (.int u0), .val (.int u1), .val (.int (2 : Int32)), .val (.int (4 : Int32)), .val (.ref aT), .unset, .unset] [])) t
        refine XS.iloadN X224.here hx rfl (hb hby at_20) rfl ?_
        exact k
      refine OFin.go S225 ?_
      obtain ⟨_, T226, Lc226, X226, hQ226, st226⟩ := callQ X224 hx hZ (y := (⟨"com/example/stowage/stowage/ip/ProfileFollowsPinLaw", "pick", "(I)Lcom/example/stowage/stowage/ip/Profile;"⟩ : MethodName)) hown (hw _ (List.mem_of_getElem? (i := 1) rfl)) (hw _ (List.mem_of_getElem? (i := 2) rfl)) (hw _ (List.mem_of_getElem? (i := 3) rfl)) (hw _ (List.mem_of_getElem? (i := 4) rfl)) (by decide) (argsL := [(.int (4 : Int32))]) (rest := []) (rm1 l Z a0 hw [] (4 : Int32) aC aS aT aA h0 n0 Z0 SaC SaS SaT SaA) (W := 0) (by decide) (by decide) e224 (g := (mkF m 21 #[.val (.int u0), .val (.int u1), .val (.int (2 : Int32)), .val (.int (4 : Int32)), .val (.ref aT), .unset, .unset] [(.int (4 : Int32))])) rfl (by rw [hml]; rfl) (lenOf pd_0 rfl) rfl (by show 2 * 0 + _ ≤ _; exact Nat.le_of_eq rfl) (hb hby at_21) (Nat.le_of_ble_eq_true rfl) (Nat.le_of_ble_eq_true rfl)
      obtain ⟨rfl, N226q, e226⟩ := hQ226
      have N226 := Fr.app N224 N226q
      refine OFin.go st226 ?_
      show OFin p e below _ (T226.setTop (mkF m 24 #[.val (.int u0), .val (.int u1), .val (.int (2 : Int32)), .val (.int (4 : Int32)), .val (.ref aT), .unset, .unset] [.null]))
      have S227 : ∀ t, Steps p.tables e below (T226.setTop (mkF m 28 #[.val (.int u0), .val (.int u1), .val (.int (2 : Int32)), .val (.int (4 : Int32)), .val (.ref aT), .val .null, .unset] [(.int (4 : Int32)), (.int (4 : Int32))])) t → Steps p.tables e below (T226.setTop (mkF m 24 #[.val (.int u0), .val (.int u1), .val (.int (2 : Int32)), .val (.int (4 : Int32)), .val (.ref aT), .unset, .unset] [.null])) t := by
        intro t k
        show Steps p.tables e below (T226.setTop (mkF m 24 #[.val (.int u0), .val (.int u1), .val (.int (2 : Int32)), .val (.int (4 : Int32)), .val (.ref aT), .unset, .unset] [.null])) t
        refine XS.astore X226.here hx rfl (hb hby at_24) rfl rfl (l' := #[.val (.int u0), .val (.int u1), .val (.int (2 : Int32)), .val (.int (4 : Int32)), .val (.ref aT), .val .null, .unset]) rfl ?_
        show Steps p.tables e below (T226.setTop (mkF m 26 #[.val (.int u0), .val (.int u1), .val (.int (2 : Int32)), .val (.int (4 : Int32)), .val (.ref aT), .val .null, .unset] [])) t
        refine XS.iloadN X226.here hx rfl (hb hby at_26) rfl ?_
        show Steps p.tables e below (T226.setTop (mkF m 27 #[.val (.int u0), .val (.int u1), .val (.int (2 : Int32)), .val (.int (4 : Int32)), .val (.ref aT), .val .null, .unset] [(.int (4 : Int32))])) t
        refine XS.iconst X226.here hx rfl (hb hby at_27) ?_
        exact k
      refine OFin.go S227 ?_
      have S228 : ∀ t, Steps p.tables e below (T226.setTop (mkF m 31 #[.val (.int u0), .val (.int u1), .val (.int (2 : Int32)), .val (.int (4 : Int32)), .val (.ref aT), .val .null, .unset] [])) t → Steps p.tables e below (T226.setTop (mkF m 28 #[.val (.int u0), .val (.int u1), .val (.int (2 : Int32)), .val (.int (4 : Int32)), .val (.ref aT), .val .null, .unset] [(.int (4 : Int32)), (.int (4 : Int32))])) t := by
        intro t k
        show Steps p.tables e below (T226.setTop (mkF m 28 #[.val (.int u0), .val (.int u1), .val (.int (2 : Int32)), .val (.int (4 : Int32)), .val (.ref aT), .val .null, .unset] [(.int (4 : Int32)), (.int (4 : Int32))])) t
        refine XS.icmpNo X226.here hx rfl (hb hby at_28) rfl (teq (by decide)).2 ?_
        exact k
      refine OFin.go S228 ?_
      have S229 : ∀ t, Steps p.tables e below (T226.setTop (mkF m 81 #[.val (.int u0), .val (.int u1), .val (.int (2 : Int32)), .val (.int (4 : Int32)), .val (.ref aT), .val .null, .val (.int (0 : Int32))] [.null, (.ref aT)])) t → Steps p.tables e below (T226.setTop (mkF m 31 #[.val (.int u0), .val (.int u1), .val (.int (2 : Int32)), .val (.int (4 : Int32)), .val (.ref aT), .val .null, .unset] [])) t := by
        intro t k
        show Steps p.tables e below (T226.setTop (mkF m 31 #[.val (.int u0), .val (.int u1), .val (.int (2 : Int32)), .val (.int (4 : Int32)), .val (.ref aT), .val .null, .unset] [])) t
        refine XS.iconst X226.here hx rfl (hb hby at_31) ?_
        show Steps p.tables e below (T226.setTop (mkF m 32 #[.val (.int u0), .val (.int u1), .val (.int (2 : Int32)), .val (.int (4 : Int32)), .val (.ref aT), .val .null, .unset] [(.int (0 : Int32))])) t
        refine XS.istore X226.here hx rfl (hb hby at_32) rfl (l' := #[.val (.int u0), .val (.int u1), .val (.int (2 : Int32)), .val (.int (4 : Int32)), .val (.ref aT), .val .null, .val (.int (0 : Int32))]) rfl ?_
        show Steps p.tables e below (T226.setTop (mkF m 34 #[.val (.int u0), .val (.int u1), .val (.int (2 : Int32)), .val (.int (4 : Int32)), .val (.ref aT), .val .null, .val (.int (0 : Int32))] [])) t
        refine XS.goto X226.here hx rfl (pc0 := 34) (pc' := 77) rfl (hb hby at_34) (by decide) (by decide) ?_
        show Steps p.tables e below (T226.setTop (mkF m 77 #[.val (.int u0), .val (.int u1), .val (.int (2 : Int32)), .val (.int (4 : Int32)), .val (.ref aT), .val .null, .val (.int (0 : Int32))] [])) t
        refine XS.aload X226.here hx rfl (hb hby at_77) rfl rfl ?_
        show Steps p.tables e below (T226.setTop (mkF m 79 #[.val (.int u0), .val (.int u1), .val (.int (2 : Int32)), .val (.int (4 : Int32)), .val (.ref aT), .val .null, .val (.int (0 : Int32))] [(.ref aT)])) t
        refine XS.aload X226.here hx rfl (hb hby at_79) rfl rfl ?_
        exact k
      refine OFin.go S229 ?_
      obtain ⟨_, T230, Lc230, X230, hQ230, st230⟩ := virtQ X226 hx hZ (y := (⟨"com/example/stowage/stowage/ip/Profile", "follows", "(Lcom/example/stowage/stowage/ip/Profile;)Z"⟩ : MethodName)) hown (hw _ (List.mem_of_getElem? (i := 10) rfl)) (hw _ (List.mem_of_getElem? (i := 12) rfl)) (hw _ (List.mem_of_getElem? (i := 6) rfl)) (hw _ (List.mem_of_getElem? (i := 14) rfl)) (hw _ (List.mem_of_getElem? (i := 11) rfl)) (hw _ (List.mem_of_getElem? (i := 13) rfl)) (by decide) EaT (argsL := [.null]) (rest := []) (rm2_2_4 l Z a0 hw [] aC aS aT aA h0 n0 Z0 FaC FaS FaT FaA naCaS naCaT naCaA naSaT naSaA naTaA) (W := 0) (by decide) (by decide) e226 (g := (mkF m 81 #[.val (.int u0), .val (.int u1), .val (.int (2 : Int32)), .val (.int (4 : Int32)), .val (.ref aT), .val .null, .val (.int (0 : Int32))] [.null, (.ref aT)])) rfl (by rw [hml]; rfl) (lenOf pd_1 rfl) rfl (by show 2 * 0 + _ ≤ _; exact Nat.le_of_eq rfl) (hb hby at_81) (Nat.le_of_ble_eq_true rfl) (Nat.le_of_ble_eq_true rfl)
      obtain ⟨rfl, N230q, e230⟩ := hQ230
      have N230 := Fr.app N226 N230q
      refine OFin.go st230 ?_
      show OFin p e below _ (T230.setTop (mkF m 84 #[.val (.int u0), .val (.int u1), .val (.int (2 : Int32)), .val (.int (4 : Int32)), .val (.ref aT), .val .null, .val (.int (0 : Int32))] [(.int (0 : Int32))]))
      have S231 : ∀ t, Steps p.tables e below (T230.setTop (mkF m 86 #[.val (.int u0), .val (.int u1), .val (.int (2 : Int32)), .val (.int (4 : Int32)), .val (.ref aT), .val .null, .val (.int (0 : Int32))] [(.int (0 : Int32)), (.int (0 : Int32))])) t → Steps p.tables e below (T230.setTop (mkF m 84 #[.val (.int u0), .val (.int u1), .val (.int (2 : Int32)), .val (.int (4 : Int32)), .val (.ref aT), .val .null, .val (.int (0 : Int32))] [(.int (0 : Int32))])) t := by
        intro t k
        show Steps p.tables e below (T230.setTop (mkF m 84 #[.val (.int u0), .val (.int u1), .val (.int (2 : Int32)), .val (.int (4 : Int32)), .val (.ref aT), .val .null, .val (.int (0 : Int32))] [(.int (0 : Int32))])) t
        refine XS.iload X230.here hx rfl (hb hby at_84) rfl ?_
        exact k
      refine OFin.go S231 ?_
      have S232 : ∀ t, Steps p.tables e below (T230.setTop (mkF m 89 #[.val (.int u0), .val (.int u1), .val (.int (2 : Int32)), .val (.int (4 : Int32)), .val (.ref aT), .val .null, .val (.int (0 : Int32))] [])) t → Steps p.tables e below (T230.setTop (mkF m 86 #[.val (.int u0), .val (.int u1), .val (.int (2 : Int32)), .val (.int (4 : Int32)), .val (.ref aT), .val .null, .val (.int (0 : Int32))] [(.int (0 : Int32)), (.int (0 : Int32))])) t := by
        intro t k
        show Steps p.tables e below (T230.setTop (mkF m 86 #[.val (.int u0), .val (.int u1), .val (.int (2 : Int32)), .val (.int (4 : Int32)), .val (.ref aT), .val .null, .val (.int (0 : Int32))] [(.int (0 : Int32)), (.int (0 : Int32))])) t
        refine XS.icmpNo X230.here hx rfl (hb hby at_86) rfl (teq (by decide)).2 ?_
        exact k
      refine OFin.go S232 ?_
      have S233 : ∀ t, Steps p.tables e below (T230.setTop (mkF m 94 #[.val (.int u0), .val (.int u1), .val (.int (2 : Int32)), .val (.int (4 : Int32)), .val (.ref aT), .val .null, .val (.int (0 : Int32))] [(.int (1 : Int32))])) t → Steps p.tables e below (T230.setTop (mkF m 89 #[.val (.int u0), .val (.int u1), .val (.int (2 : Int32)), .val (.int (4 : Int32)), .val (.ref aT), .val .null, .val (.int (0 : Int32))] [])) t := by
        intro t k
        show Steps p.tables e below (T230.setTop (mkF m 89 #[.val (.int u0), .val (.int u1), .val (.int (2 : Int32)), .val (.int (4 : Int32)), .val (.ref aT), .val .null, .val (.int (0 : Int32))] [])) t
        refine XS.iconst X230.here hx rfl (hb hby at_89) ?_
        show Steps p.tables e below (T230.setTop (mkF m 90 #[.val (.int u0), .val (.int u1), .val (.int (2 : Int32)), .val (.int (4 : Int32)), .val (.ref aT), .val .null, .val (.int (0 : Int32))] [(.int (1 : Int32))])) t
        refine XS.goto X230.here hx rfl (pc0 := 90) (pc' := 94) rfl (hb hby at_90) (by decide) (by decide) ?_
        exact k
      refine OFin.go S233 ?_
      exact finZ X230 hx Bd.notSynchronized (t := .boolean) Bd.returns (by simp) (hb hby at_94) rfl (by decide) (by decide) (⟨congrArg (fun z => some (Value.int z)) (rfl : (1 : Int32) = (1 : Int32)), N230⟩)
  ·
    subst hkk2'
    show OFin p e below _ (s₁.setTop (mkF m 7 #[.val (.int u0), .val (.int u1), .val (.int (3 : Int32)), .unset, .unset, .unset, .unset] []))
    have S234 : ∀ t, Steps p.tables e below (s₁.setTop (mkF m 14 #[.val (.int u0), .val (.int u1), .val (.int (3 : Int32)), .val (.int ((u1 &&& (2147483647 : Int32)) % (5 : Int32))), .unset, .unset, .unset] [])) t → Steps p.tables e below (s₁.setTop (mkF m 7 #[.val (.int u0), .val (.int u1), .val (.int (3 : Int32)), .unset, .unset, .unset, .unset] [])) t := by
      intro t k
      show Steps p.tables e below (s₁.setTop (mkF m 7 #[.val (.int u0), .val (.int u1), .val (.int (3 : Int32)), .unset, .unset, .unset, .unset] [])) t
      refine XS.iloadN X0.here hx rfl (hb hby at_7) rfl ?_
      show Steps p.tables e below (s₁.setTop (mkF m 8 #[.val (.int u0), .val (.int u1), .val (.int (3 : Int32)), .unset, .unset, .unset, .unset] [(.int u1)])) t
      refine X0.ldcInt hx hown (mvT hZ (hw _ (List.mem_of_getElem? (i := 0) rfl))) (g := (mkF m 8 #[.val (.int u0), .val (.int u1), .val (.int (3 : Int32)), .unset, .unset, .unset, .unset] [(.int u1)])) rfl (hb hby at_8) _ ?_
      show Steps p.tables e below (s₁.setTop (mkF m 10 #[.val (.int u0), .val (.int u1), .val (.int (3 : Int32)), .unset, .unset, .unset, .unset] [(.int (2147483647 : Int32)), (.int u1)])) t
      refine XS.iand X0.here hx rfl (hb hby at_10) rfl ?_
      show Steps p.tables e below (s₁.setTop (mkF m 11 #[.val (.int u0), .val (.int u1), .val (.int (3 : Int32)), .unset, .unset, .unset, .unset] [(.int (u1 &&& (2147483647 : Int32)))])) t
      refine XS.iconst X0.here hx rfl (hb hby at_11) ?_
      show Steps p.tables e below (s₁.setTop (mkF m 12 #[.val (.int u0), .val (.int u1), .val (.int (3 : Int32)), .unset, .unset, .unset, .unset] [(.int (5 : Int32)), (.int (u1 &&& (2147483647 : Int32)))])) t
      refine iremM X0 hx rfl (hb hby at_12) rfl (by decide) ?_
      show Steps p.tables e below (s₁.setTop (mkF m 13 #[.val (.int u0), .val (.int u1), .val (.int (3 : Int32)), .unset, .unset, .unset, .unset] [(.int ((u1 &&& (2147483647 : Int32)) % (5 : Int32)))])) t
      refine XS.istoreN X0.here hx rfl (hb hby at_13) rfl (l' := #[.val (.int u0), .val (.int u1), .val (.int (3 : Int32)), .val (.int ((u1 &&& (2147483647 : Int32)) % (5 : Int32))), .unset, .unset, .unset]) rfl ?_
      exact k
    refine OFin.go S234 ?_
    obtain ⟨kk235, hkk235⟩ : ∃ z : Int32, z = ((u1 &&& (2147483647 : Int32)) % (5 : Int32)) := ⟨_, rfl⟩
    rw [← hkk235]
    rcases (own_k5 _ hkk235 : kk235 = (0 : Int32) ∨ kk235 = (1 : Int32) ∨ kk235 = (2 : Int32) ∨ kk235 = (3 : Int32) ∨ kk235 = (4 : Int32)) with hkk235'  | hkk235'  | hkk235'  | hkk235'  | hkk235' 
    ·
      subst hkk235'
      show OFin p e below _ (s₁.setTop (mkF m 14 #[.val (.int u0), .val (.int u1), .val (.int (3 : Int32)), .val (.int (0 : Int32)), .unset, .unset, .unset] []))
      have S236 : ∀ t, Steps p.tables e below (s₁.setTop (mkF m 15 #[.val (.int u0), .val (.int u1), .val (.int (3 : Int32)), .val (.int (0 : Int32)), .unset, .unset, .unset] [(.int (3 : Int32))])) t → Steps p.tables e below (s₁.setTop (mkF m 14 #[.val (.int u0), .val (.int u1), .val (.int (3 : Int32)), .val (.int (0 : Int32)), .unset, .unset, .unset] [])) t := by
        intro t k
        show Steps p.tables e below (s₁.setTop (mkF m 14 #[.val (.int u0), .val (.int u1), .val (.int (3 : Int32)), .val (.int (0 : Int32)), .unset, .unset, .unset] [])) t
        refine XS.iloadN X0.here hx rfl (hb hby at_14) rfl ?_
        exact k
      refine OFin.go S236 ?_
      obtain ⟨_, T237, Lc237, X237, hQ237, st237⟩ := callQ X0 hx hZ (y := (⟨"com/example/stowage/stowage/ip/ProfileFollowsPinLaw", "pick", "(I)Lcom/example/stowage/stowage/ip/Profile;"⟩ : MethodName)) hown (hw _ (List.mem_of_getElem? (i := 1) rfl)) (hw _ (List.mem_of_getElem? (i := 2) rfl)) (hw _ (List.mem_of_getElem? (i := 3) rfl)) (hw _ (List.mem_of_getElem? (i := 4) rfl)) (by decide) (argsL := [(.int (3 : Int32))]) (rest := []) (rm1 l Z a0 hw [] (3 : Int32) aC aS aT aA h0 n0 Z0 SaC SaS SaT SaA) (W := 0) (by decide) (by decide) e0 (g := (mkF m 15 #[.val (.int u0), .val (.int u1), .val (.int (3 : Int32)), .val (.int (0 : Int32)), .unset, .unset, .unset] [(.int (3 : Int32))])) rfl (by rw [hml]; rfl) (lenOf pd_0 rfl) rfl (by show 2 * 0 + _ ≤ _; exact Nat.le_of_eq rfl) (hb hby at_15) (Nat.le_of_ble_eq_true rfl) (Nat.le_of_ble_eq_true rfl)
      obtain ⟨rfl, N237q, e237⟩ := hQ237
      have N237 := Fr.app N0 N237q
      refine OFin.go st237 ?_
      show OFin p e below _ (T237.setTop (mkF m 18 #[.val (.int u0), .val (.int u1), .val (.int (3 : Int32)), .val (.int (0 : Int32)), .unset, .unset, .unset] [(.ref aA)]))
      have S238 : ∀ t, Steps p.tables e below (T237.setTop (mkF m 21 #[.val (.int u0), .val (.int u1), .val (.int (3 : Int32)), .val (.int (0 : Int32)), .val (.ref aA), .unset, .unset] [(.int (0 : Int32))])) t → Steps p.tables e below (T237.setTop (mkF m 18 #[.val (.int u0), .val (.int u1), .val (.int (3 : Int32)), .val (.int (0 : Int32)), .unset, .unset, .unset] [(.ref aA)])) t := by
        intro t k
        show Steps p.tables e below (T237.setTop (mkF m 18 #[.val (.int u0), .val (.int u1), .val (.int (3 : Int32)), .val (.int (0 : Int32)), .unset, .unset, .unset] [(.ref aA)])) t
        refine XS.astore X237.here hx rfl (hb hby at_18) rfl rfl (l' := #[.val (.int u0), .val (.int u1), .val (.int (3 : Int32)), .val (.int (0 : Int32)), .val (.ref aA), .unset, .unset]) rfl ?_
        show Steps p.tables e below (T237.setTop (mkF m 20 #[.val (.int u0), .val (.int u1), .val (.int (3 : Int32)), .val (.int (0 : Int32)), .val (.ref aA), .unset, .unset] [])) t
        refine XS.iloadN X237.here hx rfl (hb hby at_20) rfl ?_
        exact k
      refine OFin.go S238 ?_
      obtain ⟨_, T239, Lc239, X239, hQ239, st239⟩ := callQ X237 hx hZ (y := (⟨"com/example/stowage/stowage/ip/ProfileFollowsPinLaw", "pick", "(I)Lcom/example/stowage/stowage/ip/Profile;"⟩ : MethodName)) hown (hw _ (List.mem_of_getElem? (i := 1) rfl)) (hw _ (List.mem_of_getElem? (i := 2) rfl)) (hw _ (List.mem_of_getElem? (i := 3) rfl)) (hw _ (List.mem_of_getElem? (i := 4) rfl)) (by decide) (argsL := [(.int (0 : Int32))]) (rest := []) (rm1 l Z a0 hw [] (0 : Int32) aC aS aT aA h0 n0 Z0 SaC SaS SaT SaA) (W := 0) (by decide) (by decide) e237 (g := (mkF m 21 #[.val (.int u0), .val (.int u1), .val (.int (3 : Int32)), .val (.int (0 : Int32)), .val (.ref aA), .unset, .unset] [(.int (0 : Int32))])) rfl (by rw [hml]; rfl) (lenOf pd_0 rfl) rfl (by show 2 * 0 + _ ≤ _; exact Nat.le_of_eq rfl) (hb hby at_21) (Nat.le_of_ble_eq_true rfl) (Nat.le_of_ble_eq_true rfl)
      obtain ⟨rfl, N239q, e239⟩ := hQ239
      have N239 := Fr.app N237 N239q
      refine OFin.go st239 ?_
      show OFin p e below _ (T239.setTop (mkF m 24 #[.val (.int u0), .val (.int u1), .val (.int (3 : Int32)), .val (.int (0 : Int32)), .val (.ref aA), .unset, .unset] [(.ref aC)]))
      have S240 : ∀ t, Steps p.tables e below (T239.setTop (mkF m 28 #[.val (.int u0), .val (.int u1), .val (.int (3 : Int32)), .val (.int (0 : Int32)), .val (.ref aA), .val (.ref aC), .unset] [(.int (4 : Int32)), (.int (0 : Int32))])) t → Steps p.tables e below (T239.setTop (mkF m 24 #[.val (.int u0), .val (.int u1), .val (.int (3 : Int32)), .val (.int (0 : Int32)), .val (.ref aA), .unset, .unset] [(.ref aC)])) t := by
        intro t k
        show Steps p.tables e below (T239.setTop (mkF m 24 #[.val (.int u0), .val (.int u1), .val (.int (3 : Int32)), .val (.int (0 : Int32)), .val (.ref aA), .unset, .unset] [(.ref aC)])) t
        refine XS.astore X239.here hx rfl (hb hby at_24) rfl rfl (l' := #[.val (.int u0), .val (.int u1), .val (.int (3 : Int32)), .val (.int (0 : Int32)), .val (.ref aA), .val (.ref aC), .unset]) rfl ?_
        show Steps p.tables e below (T239.setTop (mkF m 26 #[.val (.int u0), .val (.int u1), .val (.int (3 : Int32)), .val (.int (0 : Int32)), .val (.ref aA), .val (.ref aC), .unset] [])) t
        refine XS.iloadN X239.here hx rfl (hb hby at_26) rfl ?_
        show Steps p.tables e below (T239.setTop (mkF m 27 #[.val (.int u0), .val (.int u1), .val (.int (3 : Int32)), .val (.int (0 : Int32)), .val (.ref aA), .val (.ref aC), .unset] [(.int (0 : Int32))])) t
        refine XS.iconst X239.here hx rfl (hb hby at_27) ?_
        exact k
      refine OFin.go S240 ?_
      have S241 : ∀ t, Steps p.tables e below (T239.setTop (mkF m 37 #[.val (.int u0), .val (.int u1), .val (.int (3 : Int32)), .val (.int (0 : Int32)), .val (.ref aA), .val (.ref aC), .unset] [])) t → Steps p.tables e below (T239.setTop (mkF m 28 #[.val (.int u0), .val (.int u1), .val (.int (3 : Int32)), .val (.int (0 : Int32)), .val (.ref aA), .val (.ref aC), .unset] [(.int (4 : Int32)), (.int (0 : Int32))])) t := by
        intro t k
        show Steps p.tables e below (T239.setTop (mkF m 28 #[.val (.int u0), .val (.int u1), .val (.int (3 : Int32)), .val (.int (0 : Int32)), .val (.ref aA), .val (.ref aC), .unset] [(.int (4 : Int32)), (.int (0 : Int32))])) t
        refine XS.icmpYes X239.here hx rfl (pc0 := 28) (pc' := 37) rfl (hb hby at_28) rfl (feq (by decide)).2 (by decide) (by decide) ?_
        exact k
      refine OFin.go S241 ?_
      have S242 : ∀ t, Steps p.tables e below (T239.setTop (mkF m 39 #[.val (.int u0), .val (.int u1), .val (.int (3 : Int32)), .val (.int (0 : Int32)), .val (.ref aA), .val (.ref aC), .unset] [(.int (0 : Int32)), (.int (3 : Int32))])) t → Steps p.tables e below (T239.setTop (mkF m 37 #[.val (.int u0), .val (.int u1), .val (.int (3 : Int32)), .val (.int (0 : Int32)), .val (.ref aA), .val (.ref aC), .unset] [])) t := by
        intro t k
        show Steps p.tables e below (T239.setTop (mkF m 37 #[.val (.int u0), .val (.int u1), .val (.int (3 : Int32)), .val (.int (0 : Int32)), .val (.ref aA), .val (.ref aC), .unset] [])) t
        refine XS.iloadN X239.here hx rfl (hb hby at_37) rfl ?_
        show Steps p.tables e below (T239.setTop (mkF m 38 #[.val (.int u0), .val (.int u1), .val (.int (3 : Int32)), .val (.int (0 : Int32)), .val (.ref aA), .val (.ref aC), .unset] [(.int (3 : Int32))])) t
        refine XS.iloadN X239.here hx rfl (hb hby at_38) rfl ?_
        exact k
      refine OFin.go S242 ?_
      have S243 : ∀ t, Steps p.tables e below (T239.setTop (mkF m 48 #[.val (.int u0), .val (.int u1), .val (.int (3 : Int32)), .val (.int (0 : Int32)), .val (.ref aA), .val (.ref aC), .unset] [])) t → Steps p.tables e below (T239.setTop (mkF m 39 #[.val (.int u0), .val (.int u1), .val (.int (3 : Int32)), .val (.int (0 : Int32)), .val (.ref aA), .val (.ref aC), .unset] [(.int (0 : Int32)), (.int (3 : Int32))])) t := by
        intro t k
        show Steps p.tables e below (T239.setTop (mkF m 39 #[.val (.int u0), .val (.int u1), .val (.int (3 : Int32)), .val (.int (0 : Int32)), .val (.ref aA), .val (.ref aC), .unset] [(.int (0 : Int32)), (.int (3 : Int32))])) t
        refine XS.icmpYes X239.here hx rfl (pc0 := 39) (pc' := 48) rfl (hb hby at_39) rfl (feq (by decide)).2 (by decide) (by decide) ?_
        exact k
      refine OFin.go S243 ?_
      have S244 : ∀ t, Steps p.tables e below (T239.setTop (mkF m 49 #[.val (.int u0), .val (.int u1), .val (.int (3 : Int32)), .val (.int (0 : Int32)), .val (.ref aA), .val (.ref aC), .unset] [(.int (0 : Int32))])) t → Steps p.tables e below (T239.setTop (mkF m 48 #[.val (.int u0), .val (.int u1), .val (.int (3 : Int32)), .val (.int (0 : Int32)), .val (.ref aA), .val (.ref aC), .unset] [])) t := by
        intro t k
        show Steps p.tables e below (T239.setTop (mkF m 48 #[.val (.int u0), .val (.int u1), .val (.int (3 : Int32)), .val (.int (0 : Int32)), .val (.ref aA), .val (.ref aC), .unset] [])) t
        refine XS.iloadN X239.here hx rfl (hb hby at_48) rfl ?_
        exact k
      refine OFin.go S244 ?_
      have S245 : ∀ t, Steps p.tables e below (T239.setTop (mkF m 52 #[.val (.int u0), .val (.int u1), .val (.int (3 : Int32)), .val (.int (0 : Int32)), .val (.ref aA), .val (.ref aC), .unset] [])) t → Steps p.tables e below (T239.setTop (mkF m 49 #[.val (.int u0), .val (.int u1), .val (.int (3 : Int32)), .val (.int (0 : Int32)), .val (.ref aA), .val (.ref aC), .unset] [(.int (0 : Int32))])) t := by
        intro t k
        show Steps p.tables e below (T239.setTop (mkF m 49 #[.val (.int u0), .val (.int u1), .val (.int (3 : Int32)), .val (.int (0 : Int32)), .val (.ref aA), .val (.ref aC), .unset] [(.int (0 : Int32))])) t
        refine XS.ifNo X239.here hx rfl (hb hby at_49) rfl ((if0 _ _).trans (teq (by decide)).2) ?_
        exact k
      refine OFin.go S245 ?_
      have S246 : ∀ t, Steps p.tables e below (T239.setTop (mkF m 81 #[.val (.int u0), .val (.int u1), .val (.int (3 : Int32)), .val (.int (0 : Int32)), .val (.ref aA), .val (.ref aC), .val (.int (1 : Int32))] [(.ref aC), (.ref aA)])) t → Steps p.tables e below (T239.setTop (mkF m 52 #[.val (.int u0), .val (.int u1), .val (.int (3 : Int32)), .val (.int (0 : Int32)), .val (.ref aA), .val (.ref aC), .unset] [])) t := by
        intro t k
        show Steps p.tables e below (T239.setTop (mkF m 52 #[.val (.int u0), .val (.int u1), .val (.int (3 : Int32)), .val (.int (0 : Int32)), .val (.ref aA), .val (.ref aC), .unset] [])) t
        refine XS.iconst X239.here hx rfl (hb hby at_52) ?_
        show Steps p.tables e below (T239.setTop (mkF m 53 #[.val (.int u0), .val (.int u1), .val (.int (3 : Int32)), .val (.int (0 : Int32)), .val (.ref aA), .val (.ref aC), .unset] [(.int (1 : Int32))])) t
        refine XS.istore X239.here hx rfl (hb hby at_53) rfl (l' := #[.val (.int u0), .val (.int u1), .val (.int (3 : Int32)), .val (.int (0 : Int32)), .val (.ref aA), .val (.ref aC), .val (.int (1 : Int32))]) rfl ?_
        show Steps p.tables e below (T239.setTop (mkF m 55 #[.val (.int u0), .val (.int u1), .val (.int (3 : Int32)), .val (.int (0 : Int32)), .val (.ref aA), .val (.ref aC), .val (.int (1 : Int32))] [])) t
        refine XS.goto X239.here hx rfl (pc0 := 55) (pc' := 77) rfl (hb hby at_55) (by decide) (by decide) ?_
        show Steps p.tables e below (T239.setTop (mkF m 77 #[.val (.int u0), .val (.int u1), .val (.int (3 : Int32)), .val (.int (0 : Int32)), .val (.ref aA), .val (.ref aC), .val (.int (1 : Int32))] [])) t
        refine XS.aload X239.here hx rfl (hb hby at_77) rfl rfl ?_
        show Steps p.tables e below (T239.setTop (mkF m 79 #[.val (.int u0), .val (.int u1), .val (.int (3 : Int32)), .val (.int (0 : Int32)), .val (.ref aA), .val (.ref aC), .val (.int (1 : Int32))] [(.ref aA)])) t
        refine XS.aload X239.here hx rfl (hb hby at_79) rfl rfl ?_
        exact k
      refine OFin.go S246 ?_
      obtain ⟨_, T247, Lc247, X247, hQ247, st247⟩ := virtQ X239 hx hZ (y := (⟨"com/example/stowage/stowage/ip/Profile", "follows", "(Lcom/example/stowage/stowage/ip/Profile;)Z"⟩ : MethodName)) hown (hw _ (List.mem_of_getElem? (i := 10) rfl)) (hw _ (List.mem_of_getElem? (i := 12) rfl)) (hw _ (List.mem_of_getElem? (i := 6) rfl)) (hw _ (List.mem_of_getElem? (i := 14) rfl)) (hw _ (List.mem_of_getElem? (i := 11) rfl)) (hw _ (List.mem_of_getElem? (i := 13) rfl)) (by decide) EaA (argsL := [(.ref aC)]) (rest := []) (rm2_3_0 l Z a0 hw [] aC aS aT aA h0 n0 Z0 FaC FaS FaT FaA naCaS naCaT naCaA naSaT naSaA naTaA) (W := 0) (by decide) (by decide) e239 (g := (mkF m 81 #[.val (.int u0), .val (.int u1), .val (.int (3 : Int32)), .val (.int (0 : Int32)), .val (.ref aA), .val (.ref aC), .val (.int (1 : Int32))] [(.ref aC), (.ref aA)])) rfl (by rw [hml]; rfl) (lenOf pd_1 rfl) rfl (by show 2 * 0 + _ ≤ _; exact Nat.le_of_eq rfl) (hb hby at_81) (Nat.le_of_ble_eq_true rfl) (Nat.le_of_ble_eq_true rfl)
      obtain ⟨rfl, N247q, e247⟩ := hQ247
      have N247 := Fr.app N239 N247q
      refine OFin.go st247 ?_
      show OFin p e below _ (T247.setTop (mkF m 84 #[.val (.int u0), .val (.int u1), .val (.int (3 : Int32)), .val (.int (0 : Int32)), .val (.ref aA), .val (.ref aC), .val (.int (1 : Int32))] [(.int (1 : Int32))]))
      have S248 : ∀ t, Steps p.tables e below (T247.setTop (mkF m 86 #[.val (.int u0), .val (.int u1), .val (.int (3 : Int32)), .val (.int (0 : Int32)), .val (.ref aA), .val (.ref aC), .val (.int (1 : Int32))] [(.int (1 : Int32)), (.int (1 : Int32))])) t → Steps p.tables e below (T247.setTop (mkF m 84 #[.val (.int u0), .val (.int u1), .val (.int (3 : Int32)), .val (.int (0 : Int32)), .val (.ref aA), .val (.ref aC), .val (.int (1 : Int32))] [(.int (1 : Int32))])) t := by
        intro t k
        show Steps p.tables e below (T247.setTop (mkF m 84 #[.val (.int u0), .val (.int u1), .val (.int (3 : Int32)), .val (.int (0 : Int32)), .val (.ref aA), .val (.ref aC), .val (.int (1 : Int32))] [(.int (1 : Int32))])) t
        refine XS.iload X247.here hx rfl (hb hby at_84) rfl ?_
        exact k
      refine OFin.go S248 ?_
      have S249 : ∀ t, Steps p.tables e below (T247.setTop (mkF m 89 #[.val (.int u0), .val (.int u1), .val (.int (3 : Int32)), .val (.int (0 : Int32)), .val (.ref aA), .val (.ref aC), .val (.int (1 : Int32))] [])) t → Steps p.tables e below (T247.setTop (mkF m 86 #[.val (.int u0), .val (.int u1), .val (.int (3 : Int32)), .val (.int (0 : Int32)), .val (.ref aA), .val (.ref aC), .val (.int (1 : Int32))] [(.int (1 : Int32)), (.int (1 : Int32))])) t := by
        intro t k
        show Steps p.tables e below (T247.setTop (mkF m 86 #[.val (.int u0), .val (.int u1), .val (.int (3 : Int32)), .val (.int (0 : Int32)), .val (.ref aA), .val (.ref aC), .val (.int (1 : Int32))] [(.int (1 : Int32)), (.int (1 : Int32))])) t
        refine XS.icmpNo X247.here hx rfl (hb hby at_86) rfl (teq (by decide)).2 ?_
        exact k
      refine OFin.go S249 ?_
      have S250 : ∀ t, Steps p.tables e below (T247.setTop (mkF m 94 #[.val (.int u0), .val (.int u1), .val (.int (3 : Int32)), .val (.int (0 : Int32)), .val (.ref aA), .val (.ref aC), .val (.int (1 : Int32))] [(.int (1 : Int32))])) t → Steps p.tables e below (T247.setTop (mkF m 89 #[.val (.int u0), .val (.int u1), .val (.int (3 : Int32)), .val (.int (0 : Int32)), .val (.ref aA), .val (.ref aC), .val (.int (1 : Int32))] [])) t := by
        intro t k
        show Steps p.tables e below (T247.setTop (mkF m 89 #[.val (.int u0), .val (.int u1), .val (.int (3 : Int32)), .val (.int (0 : Int32)), .val (.ref aA), .val (.ref aC), .val (.int (1 : Int32))] [])) t
        refine XS.iconst X247.here hx rfl (hb hby at_89) ?_
        show Steps p.tables e below (T247.setTop (mkF m 90 #[.val (.int u0), .val (.int u1), .val (.int (3 : Int32)), .val (.int (0 : Int32)), .val (.ref aA), .val (.ref aC), .val (.int (1 : Int32))] [(.int (1 : Int32))])) t
        refine XS.goto X247.here hx rfl (pc0 := 90) (pc' := 94) rfl (hb hby at_90) (by decide) (by decide) ?_
        exact k
      refine OFin.go S250 ?_
      exact finZ X247 hx Bd.notSynchronized (t := .boolean) Bd.returns (by simp) (hb hby at_94) rfl (by decide) (by decide) (⟨congrArg (fun z => some (Value.int z)) (rfl : (1 : Int32) = (1 : Int32)), N247⟩)
    ·
      subst hkk235'
      show OFin p e below _ (s₁.setTop (mkF m 14 #[.val (.int u0), .val (.int u1), .val (.int (3 : Int32)), .val (.int (1 : Int32)), .unset, .unset, .unset] []))
      have S251 : ∀ t, Steps p.tables e below (s₁.setTop (mkF m 15 #[.val (.int u0), .val (.int u1), .val (.int (3 : Int32)), .val (.int (1 : Int32)), .unset, .unset, .unset] [(.int (3 : Int32))])) t → Steps p.tables e below (s₁.setTop (mkF m 14 #[.val (.int u0), .val (.int u1), .val (.int (3 : Int32)), .val (.int (1 : Int32)), .unset, .unset, .unset] [])) t := by
        intro t k
        show Steps p.tables e below (s₁.setTop (mkF m 14 #[.val (.int u0), .val (.int u1), .val (.int (3 : Int32)), .val (.int (1 : Int32)), .unset, .unset, .unset] [])) t
        refine XS.iloadN X0.here hx rfl (hb hby at_14) rfl ?_
        exact k
      refine OFin.go S251 ?_
      obtain ⟨_, T252, Lc252, X252, hQ252, st252⟩ := callQ X0 hx hZ (y := (⟨"com/example/stowage/stowage/ip/ProfileFollowsPinLaw", "pick", "(I)Lcom/example/stowage/stowage/ip/Profile;"⟩ : MethodName)) hown (hw _ (List.mem_of_getElem? (i := 1) rfl)) (hw _ (List.mem_of_getElem? (i := 2) rfl)) (hw _ (List.mem_of_getElem? (i := 3) rfl)) (hw _ (List.mem_of_getElem? (i := 4) rfl)) (by decide) (argsL := [(.int (3 : Int32))]) (rest := []) (rm1 l Z a0 hw [] (3 : Int32) aC aS aT aA h0 n0 Z0 SaC SaS SaT SaA) (W := 0) (by decide) (by decide) e0 (g := (mkF m 15 #[.val (.int u0), .val (.int u1), .val (.int (3 : Int32)), .val (.int (1 : Int32)), .unset, .unset, .unset] [(.int (3 : Int32))])) rfl (by rw [hml]; rfl) (lenOf pd_0 rfl) rfl (by show 2 * 0 + _ ≤ _; exact Nat.le_of_eq rfl) (hb hby at_15) (Nat.le_of_ble_eq_true rfl) (Nat.le_of_ble_eq_true rfl)
      obtain ⟨rfl, N252q, e252⟩ := hQ252
      have N252 := Fr.app N0 N252q
      refine OFin.go st252 ?_
      show OFin p e below _ (T252.setTop (mkF m 18 #[.val (.int u0), .val (.int u1), .val (.int (3 : Int32)), .val (.int (1 : Int32)), .unset, .unset, .unset] [(.ref aA)]))
      have S253 : ∀ t, Steps p.tables e below (T252.setTop (mkF m 21 #[.val (.int u0), .val (.int u1), .val (.int (3 : Int32)), .val (.int (1 : Int32)), .val (.ref aA), .unset, .unset] [(.int (1 : Int32))])) t → Steps p.tables e below (T252.setTop (mkF m 18 #[.val (.int u0), .val (.int u1), .val (.int (3 : Int32)), .val (.int (1 : Int32)), .unset, .unset, .unset] [(.ref aA)])) t := by
        intro t k
        show Steps p.tables e below (T252.setTop (mkF m 18 #[.val (.int u0), .val (.int u1), .val (.int (3 : Int32)), .val (.int (1 : Int32)), .unset, .unset, .unset] [(.ref aA)])) t
        refine XS.astore X252.here hx rfl (hb hby at_18) rfl rfl (l' := #[.val (.int u0), .val (.int u1), .val (.int (3 : Int32)), .val (.int (1 : Int32)), .val (.ref aA), .unset, .unset]) rfl ?_
        show Steps p.tables e below (T252.setTop (mkF m 20 #[.val (.int u0), .val (.int u1), .val (.int (3 : Int32)), .val (.int (1 : Int32)), .val (.ref aA), .unset, .unset] [])) t
        refine XS.iloadN X252.here hx rfl (hb hby at_20) rfl ?_
        exact k
      refine OFin.go S253 ?_
      obtain ⟨_, T254, Lc254, X254, hQ254, st254⟩ := callQ X252 hx hZ (y := (⟨"com/example/stowage/stowage/ip/ProfileFollowsPinLaw", "pick", "(I)Lcom/example/stowage/stowage/ip/Profile;"⟩ : MethodName)) hown (hw _ (List.mem_of_getElem? (i := 1) rfl)) (hw _ (List.mem_of_getElem? (i := 2) rfl)) (hw _ (List.mem_of_getElem? (i := 3) rfl)) (hw _ (List.mem_of_getElem? (i := 4) rfl)) (by decide) (argsL := [(.int (1 : Int32))]) (rest := []) (rm1 l Z a0 hw [] (1 : Int32) aC aS aT aA h0 n0 Z0 SaC SaS SaT SaA) (W := 0) (by decide) (by decide) e252 (g := (mkF m 21 #[.val (.int u0), .val (.int u1), .val (.int (3 : Int32)), .val (.int (1 : Int32)), .val (.ref aA), .unset, .unset] [(.int (1 : Int32))])) rfl (by rw [hml]; rfl) (lenOf pd_0 rfl) rfl (by show 2 * 0 + _ ≤ _; exact Nat.le_of_eq rfl) (hb hby at_21) (Nat.le_of_ble_eq_true rfl) (Nat.le_of_ble_eq_true rfl)
      obtain ⟨rfl, N254q, e254⟩ := hQ254
      have N254 := Fr.app N252 N254q
      refine OFin.go st254 ?_
      show OFin p e below _ (T254.setTop (mkF m 24 #[.val (.int u0), .val (.int u1), .val (.int (3 : Int32)), .val (.int (1 : Int32)), .val (.ref aA), .unset, .unset] [(.ref aS)]))
      have S255 : ∀ t, Steps p.tables e below (T254.setTop (mkF m 28 #[.val (.int u0), .val (.int u1), .val (.int (3 : Int32)), .val (.int (1 : Int32)), .val (.ref aA), .val (.ref aS), .unset] [(.int (4 : Int32)), (.int (1 : Int32))])) t → Steps p.tables e below (T254.setTop (mkF m 24 #[.val (.int u0), .val (.int u1), .val (.int (3 : Int32)), .val (.int (1 : Int32)), .val (.ref aA), .unset, .unset] [(.ref aS)])) t := by
        intro t k
        show Steps p.tables e below (T254.setTop (mkF m 24 #[.val (.int u0), .val (.int u1), .val (.int (3 : Int32)), .val (.int (1 : Int32)), .val (.ref aA), .unset, .unset] [(.ref aS)])) t
        refine XS.astore X254.here hx rfl (hb hby at_24) rfl rfl (l' := #[.val (.int u0), .val (.int u1), .val (.int (3 : Int32)), .val (.int (1 : Int32)), .val (.ref aA), .val (.ref aS), .unset]) rfl ?_
        show Steps p.tables e below (T254.setTop (mkF m 26 #[.val (.int u0), .val (.int u1), .val (.int (3 : Int32)), .val (.int (1 : Int32)), .val (.ref aA), .val (.ref aS), .unset] [])) t
        refine XS.iloadN X254.here hx rfl (hb hby at_26) rfl ?_
        show Steps p.tables e below (T254.setTop (mkF m 27 #[.val (.int u0), .val (.int u1), .val (.int (3 : Int32)), .val (.int (1 : Int32)), .val (.ref aA), .val (.ref aS), .unset] [(.int (1 : Int32))])) t
        refine XS.iconst X254.here hx rfl (hb hby at_27) ?_
        exact k
      refine OFin.go S255 ?_
      have S256 : ∀ t, Steps p.tables e below (T254.setTop (mkF m 37 #[.val (.int u0), .val (.int u1), .val (.int (3 : Int32)), .val (.int (1 : Int32)), .val (.ref aA), .val (.ref aS), .unset] [])) t → Steps p.tables e below (T254.setTop (mkF m 28 #[.val (.int u0), .val (.int u1), .val (.int (3 : Int32)), .val (.int (1 : Int32)), .val (.ref aA), .val (.ref aS), .unset] [(.int (4 : Int32)), (.int (1 : Int32))])) t := by
        intro t k
        show Steps p.tables e below (T254.setTop (mkF m 28 #[.val (.int u0), .val (.int u1), .val (.int (3 : Int32)), .val (.int (1 : Int32)), .val (.ref aA), .val (.ref aS), .unset] [(.int (4 : Int32)), (.int (1 : Int32))])) t
        refine XS.icmpYes X254.here hx rfl (pc0 := 28) (pc' := 37) rfl (hb hby at_28) rfl (feq (by decide)).2 (by decide) (by decide) ?_
        exact k
      refine OFin.go S256 ?_
      have S257 : ∀ t, Steps p.tables e below (T254.setTop (mkF m 39 #[.val (.int u0), .val (.int u1), .val (.int (3 : Int32)), .val (.int (1 : Int32)), .val (.ref aA), .val (.ref aS), .unset] [(.int (1 : Int32)), (.int (3 : Int32))])) t → Steps p.tables e below (T254.setTop (mkF m 37 #[.val (.int u0), .val (.int u1), .val (.int (3 : Int32)), .val (.int (1 : Int32)), .val (.ref aA), .val (.ref aS), .unset] [])) t := by
        intro t k
        show Steps p.tables e below (T254.setTop (mkF m 37 #[.val (.int u0), .val (.int u1), .val (.int (3 : Int32)), .val (.int (1 : Int32)), .val (.ref aA), .val (.ref aS), .unset] [])) t
        refine XS.iloadN X254.here hx rfl (hb hby at_37) rfl ?_
        show Steps p.tables e below (T254.setTop (mkF m 38 #[.val (.int u0), .val (.int u1), .val (.int (3 : Int32)), .val (.int (1 : Int32)), .val (.ref aA), .val (.ref aS), .unset] [(.int (3 : Int32))])) t
        refine XS.iloadN X254.here hx rfl (hb hby at_38) rfl ?_
        exact k
      refine OFin.go S257 ?_
      have S258 : ∀ t, Steps p.tables e below (T254.setTop (mkF m 48 #[.val (.int u0), .val (.int u1), .val (.int (3 : Int32)), .val (.int (1 : Int32)), .val (.ref aA), .val (.ref aS), .unset] [])) t → Steps p.tables e below (T254.setTop (mkF m 39 #[.val (.int u0), .val (.int u1), .val (.int (3 : Int32)), .val (.int (1 : Int32)), .val (.ref aA), .val (.ref aS), .unset] [(.int (1 : Int32)), (.int (3 : Int32))])) t := by
        intro t k
        show Steps p.tables e below (T254.setTop (mkF m 39 #[.val (.int u0), .val (.int u1), .val (.int (3 : Int32)), .val (.int (1 : Int32)), .val (.ref aA), .val (.ref aS), .unset] [(.int (1 : Int32)), (.int (3 : Int32))])) t
        refine XS.icmpYes X254.here hx rfl (pc0 := 39) (pc' := 48) rfl (hb hby at_39) rfl (feq (by decide)).2 (by decide) (by decide) ?_
        exact k
      refine OFin.go S258 ?_
      have S259 : ∀ t, Steps p.tables e below (T254.setTop (mkF m 49 #[.val (.int u0), .val (.int u1), .val (.int (3 : Int32)), .val (.int (1 : Int32)), .val (.ref aA), .val (.ref aS), .unset] [(.int (1 : Int32))])) t → Steps p.tables e below (T254.setTop (mkF m 48 #[.val (.int u0), .val (.int u1), .val (.int (3 : Int32)), .val (.int (1 : Int32)), .val (.ref aA), .val (.ref aS), .unset] [])) t := by
        intro t k
        show Steps p.tables e below (T254.setTop (mkF m 48 #[.val (.int u0), .val (.int u1), .val (.int (3 : Int32)), .val (.int (1 : Int32)), .val (.ref aA), .val (.ref aS), .unset] [])) t
        refine XS.iloadN X254.here hx rfl (hb hby at_48) rfl ?_
        exact k
      refine OFin.go S259 ?_
      have S260 : ∀ t, Steps p.tables e below (T254.setTop (mkF m 58 #[.val (.int u0), .val (.int u1), .val (.int (3 : Int32)), .val (.int (1 : Int32)), .val (.ref aA), .val (.ref aS), .unset] [])) t → Steps p.tables e below (T254.setTop (mkF m 49 #[.val (.int u0), .val (.int u1), .val (.int (3 : Int32)), .val (.int (1 : Int32)), .val (.ref aA), .val (.ref aS), .unset] [(.int (1 : Int32))])) t := by
        intro t k
        show Steps p.tables e below (T254.setTop (mkF m 49 #[.val (.int u0), .val (.int u1), .val (.int (3 : Int32)), .val (.int (1 : Int32)), .val (.ref aA), .val (.ref aS), .unset] [(.int (1 : Int32))])) t
        refine XS.ifYes X254.here hx rfl (pc0 := 49) (pc' := 58) rfl (hb hby at_49) rfl ((if0 _ _).trans (feq (by decide)).2) (by decide) (by decide) ?_
        exact k
      refine OFin.go S260 ?_
      have S261 : ∀ t, Steps p.tables e below (T254.setTop (mkF m 60 #[.val (.int u0), .val (.int u1), .val (.int (3 : Int32)), .val (.int (1 : Int32)), .val (.ref aA), .val (.ref aS), .unset] [(.int (2 : Int32)), (.int (3 : Int32))])) t → Steps p.tables e below (T254.setTop (mkF m 58 #[.val (.int u0), .val (.int u1), .val (.int (3 : Int32)), .val (.int (1 : Int32)), .val (.ref aA), .val (.ref aS), .unset] [])) t := by
        intro t k
        show Steps p.tables e below (T254.setTop (mkF m 58 #[.val (.int u0), .val (.int u1), .val (.int (3 : Int32)), .val (.int (1 : Int32)), .val (.ref aA), .val (.ref aS), .unset] [])) t
        refine XS.iloadN X254.here hx rfl (hb hby at_58) rfl ?_
        show Steps p.tables e below (T254.setTop (mkF m 59 #[.val (.int u0), .val (.int u1), .val (.int (3 : Int32)), .val (.int (1 : Int32)), .val (.ref aA), .val (.ref aS), .unset] [(.int (3 : Int32))])) t
        refine XS.iconst X254.here hx rfl (hb hby at_59) ?_
        exact k
      refine OFin.go S261 ?_
      have S262 : ∀ t, Steps p.tables e below (T254.setTop (mkF m 74 #[.val (.int u0), .val (.int u1), .val (.int (3 : Int32)), .val (.int (1 : Int32)), .val (.ref aA), .val (.ref aS), .unset] [])) t → Steps p.tables e below (T254.setTop (mkF m 60 #[.val (.int u0), .val (.int u1), .val (.int (3 : Int32)), .val (.int (1 : Int32)), .val (.ref aA), .val (.ref aS), .unset] [(.int (2 : Int32)), (.int (3 : Int32))])) t := by
        intro t k
        show Steps p.tables e below (T254.setTop (mkF m 60 #[.val (.int u0), .val (.int u1), .val (.int (3 : Int32)), .val (.int (1 : Int32)), .val (.ref aA), .val (.ref aS), .unset] [(.int (2 : Int32)), (.int (3 : Int32))])) t
        refine XS.icmpYes X254.here hx rfl (pc0 := 60) (pc' := 74) rfl (hb hby at_60) rfl (feq (by decide)).2 (by decide) (by decide) ?_
        exact k
      refine OFin.go S262 ?_
      have S263 : ∀ t, Steps p.tables e below (T254.setTop (mkF m 81 #[.val (.int u0), .val (.int u1), .val (.int (3 : Int32)), .val (.int (1 : Int32)), .val (.ref aA), .val (.ref aS), .val (.int (0 : Int32))] [(.ref aS), (.ref aA)])) t → Steps p.tables e below (T254.setTop (mkF m 74 #[.val (.int u0), .val (.int u1), .val (.int (3 : Int32)), .val (.int (1 : Int32)), .val (.ref aA), .val (.ref aS), .unset] [])) t := by
        intro t k
        show Steps p.tables e below (T254.setTop (mkF m 74 #[.val (.int u0), .val (.int u1), .val (.int (3 : Int32)), .val (.int (1 : Int32)), .val (.ref aA), .val (.ref aS), .unset] [])) t
        refine XS.iconst X254.here hx rfl (hb hby at_74) ?_
        show Steps p.tables e below (T254.setTop (mkF m 75 #[.val (.int u0), .val (.int u1), .val (.int (3 : Int32)), .val (.int (1 : Int32)), .val (.ref aA), .val (.ref aS), .unset] [(.int (0 : Int32))])) t
        refine XS.istore X254.here hx rfl (hb hby at_75) rfl (l' := #[.val (.int u0), .val (.int u1), .val (.int (3 : Int32)), .val (.int (1 : Int32)), .val (.ref aA), .val (.ref aS), .val (.int (0 : Int32))]) rfl ?_
        show Steps p.tables e below (T254.setTop (mkF m 77 #[.val (.int u0), .val (.int u1), .val (.int (3 : Int32)), .val (.int (1 : Int32)), .val (.ref aA), .val (.ref aS), .val (.int (0 : Int32))] [])) t
        refine XS.aload X254.here hx rfl (hb hby at_77) rfl rfl ?_
        show Steps p.tables e below (T254.setTop (mkF m 79 #[.val (.int u0), .val (.int u1), .val (.int (3 : Int32)), .val (.int (1 : Int32)), .val (.ref aA), .val (.ref aS), .val (.int (0 : Int32))] [(.ref aA)])) t
        refine XS.aload X254.here hx rfl (hb hby at_79) rfl rfl ?_
        exact k
      refine OFin.go S263 ?_
      obtain ⟨_, T264, Lc264, X264, hQ264, st264⟩ := virtQ X254 hx hZ (y := (⟨"com/example/stowage/stowage/ip/Profile", "follows", "(Lcom/example/stowage/stowage/ip/Profile;)Z"⟩ : MethodName)) hown (hw _ (List.mem_of_getElem? (i := 10) rfl)) (hw _ (List.mem_of_getElem? (i := 12) rfl)) (hw _ (List.mem_of_getElem? (i := 6) rfl)) (hw _ (List.mem_of_getElem? (i := 14) rfl)) (hw _ (List.mem_of_getElem? (i := 11) rfl)) (hw _ (List.mem_of_getElem? (i := 13) rfl)) (by decide) EaA (argsL := [(.ref aS)]) (rest := []) (rm2_3_1 l Z a0 hw [] aC aS aT aA h0 n0 Z0 FaC FaS FaT FaA naCaS naCaT naCaA naSaT naSaA naTaA) (W := 0) (by decide) (by decide) e254 (g := (mkF m 81 #[.val (.int u0), .val (.int u1), .val (.int (3 : Int32)), .val (.int (1 : Int32)), .val (.ref aA), .val (.ref aS), .val (.int (0 : Int32))] [(.ref aS), (.ref aA)])) rfl (by rw [hml]; rfl) (lenOf pd_1 rfl) rfl (by show 2 * 0 + _ ≤ _; exact Nat.le_of_eq rfl) (hb hby at_81) (Nat.le_of_ble_eq_true rfl) (Nat.le_of_ble_eq_true rfl)
      obtain ⟨rfl, N264q, e264⟩ := hQ264
      have N264 := Fr.app N254 N264q
      refine OFin.go st264 ?_
      show OFin p e below _ (T264.setTop (mkF m 84 #[.val (.int u0), .val (.int u1), .val (.int (3 : Int32)), .val (.int (1 : Int32)), .val (.ref aA), .val (.ref aS), .val (.int (0 : Int32))] [(.int (0 : Int32))]))
      have S265 : ∀ t, Steps p.tables e below (T264.setTop (mkF m 86 #[.val (.int u0), .val (.int u1), .val (.int (3 : Int32)), .val (.int (1 : Int32)), .val (.ref aA), .val (.ref aS), .val (.int (0 : Int32))] [(.int (0 : Int32)), (.int (0 : Int32))])) t → Steps p.tables e below (T264.setTop (mkF m 84 #[.val (.int u0), .val (.int u1), .val (.int (3 : Int32)), .val (.int (1 : Int32)), .val (.ref aA), .val (.ref aS), .val (.int (0 : Int32))] [(.int (0 : Int32))])) t := by
        intro t k
        show Steps p.tables e below (T264.setTop (mkF m 84 #[.val (.int u0), .val (.int u1), .val (.int (3 : Int32)), .val (.int (1 : Int32)), .val (.ref aA), .val (.ref aS), .val (.int (0 : Int32))] [(.int (0 : Int32))])) t
        refine XS.iload X264.here hx rfl (hb hby at_84) rfl ?_
        exact k
      refine OFin.go S265 ?_
      have S266 : ∀ t, Steps p.tables e below (T264.setTop (mkF m 89 #[.val (.int u0), .val (.int u1), .val (.int (3 : Int32)), .val (.int (1 : Int32)), .val (.ref aA), .val (.ref aS), .val (.int (0 : Int32))] [])) t → Steps p.tables e below (T264.setTop (mkF m 86 #[.val (.int u0), .val (.int u1), .val (.int (3 : Int32)), .val (.int (1 : Int32)), .val (.ref aA), .val (.ref aS), .val (.int (0 : Int32))] [(.int (0 : Int32)), (.int (0 : Int32))])) t := by
        intro t k
        show Steps p.tables e below (T264.setTop (mkF m 86 #[.val (.int u0), .val (.int u1), .val (.int (3 : Int32)), .val (.int (1 : Int32)), .val (.ref aA), .val (.ref aS), .val (.int (0 : Int32))] [(.int (0 : Int32)), (.int (0 : Int32))])) t
        refine XS.icmpNo X264.here hx rfl (hb hby at_86) rfl (teq (by decide)).2 ?_
        exact k
      refine OFin.go S266 ?_
      have S267 : ∀ t, Steps p.tables e below (T264.setTop (mkF m 94 #[.val (.int u0), .val (.int u1), .val (.int (3 : Int32)), .val (.int (1 : Int32)), .val (.ref aA), .val (.ref aS), .val (.int (0 : Int32))] [(.int (1 : Int32))])) t → Steps p.tables e below (T264.setTop (mkF m 89 #[.val (.int u0), .val (.int u1), .val (.int (3 : Int32)), .val (.int (1 : Int32)), .val (.ref aA), .val (.ref aS), .val (.int (0 : Int32))] [])) t := by
        intro t k
        show Steps p.tables e below (T264.setTop (mkF m 89 #[.val (.int u0), .val (.int u1), .val (.int (3 : Int32)), .val (.int (1 : Int32)), .val (.ref aA), .val (.ref aS), .val (.int (0 : Int32))] [])) t
        refine XS.iconst X264.here hx rfl (hb hby at_89) ?_
        show Steps p.tables e below (T264.setTop (mkF m 90 #[.val (.int u0), .val (.int u1), .val (.int (3 : Int32)), .val (.int (1 : Int32)), .val (.ref aA), .val (.ref aS), .val (.int (0 : Int32))] [(.int (1 : Int32))])) t
        refine XS.goto X264.here hx rfl (pc0 := 90) (pc' := 94) rfl (hb hby at_90) (by decide) (by decide) ?_
        exact k
      refine OFin.go S267 ?_
      exact finZ X264 hx Bd.notSynchronized (t := .boolean) Bd.returns (by simp) (hb hby at_94) rfl (by decide) (by decide) (⟨congrArg (fun z => some (Value.int z)) (rfl : (1 : Int32) = (1 : Int32)), N264⟩)
    ·
      subst hkk235'
      show OFin p e below _ (s₁.setTop (mkF m 14 #[.val (.int u0), .val (.int u1), .val (.int (3 : Int32)), .val (.int (2 : Int32)), .unset, .unset, .unset] []))
      have S268 : ∀ t, Steps p.tables e below (s₁.setTop (mkF m 15 #[.val (.int u0), .val (.int u1), .val (.int (3 : Int32)), .val (.int (2 : Int32)), .unset, .unset, .unset] [(.int (3 : Int32))])) t → Steps p.tables e below (s₁.setTop (mkF m 14 #[.val (.int u0), .val (.int u1), .val (.int (3 : Int32)), .val (.int (2 : Int32)), .unset, .unset, .unset] [])) t := by
        intro t k
        show Steps p.tables e below (s₁.setTop (mkF m 14 #[.val (.int u0), .val (.int u1), .val (.int (3 : Int32)), .val (.int (2 : Int32)), .unset, .unset, .unset] [])) t
        refine XS.iloadN X0.here hx rfl (hb hby at_14) rfl ?_
        exact k
      refine OFin.go S268 ?_
      obtain ⟨_, T269, Lc269, X269, hQ269, st269⟩ := callQ X0 hx hZ (y := (⟨"com/example/stowage/stowage/ip/ProfileFollowsPinLaw", "pick", "(I)Lcom/example/stowage/stowage/ip/Profile;"⟩ : MethodName)) hown (hw _ (List.mem_of_getElem? (i := 1) rfl)) (hw _ (List.mem_of_getElem? (i := 2) rfl)) (hw _ (List.mem_of_getElem? (i := 3) rfl)) (hw _ (List.mem_of_getElem? (i := 4) rfl)) (by decide) (argsL := [(.int (3 : Int32))]) (rest := []) (rm1 l Z a0 hw [] (3 : Int32) aC aS aT aA h0 n0 Z0 SaC SaS SaT SaA) (W := 0) (by decide) (by decide) e0 (g := (mkF m 15 #[.val (.int u0), .val (.int u1), .val (.int (3 : Int32)), .val (.int (2 : Int32)), .unset, .unset, .unset] [(.int (3 : Int32))])) rfl (by rw [hml]; rfl) (lenOf pd_0 rfl) rfl (by show 2 * 0 + _ ≤ _; exact Nat.le_of_eq rfl) (hb hby at_15) (Nat.le_of_ble_eq_true rfl) (Nat.le_of_ble_eq_true rfl)
      obtain ⟨rfl, N269q, e269⟩ := hQ269
      have N269 := Fr.app N0 N269q
      refine OFin.go st269 ?_
      show OFin p e below _ (T269.setTop (mkF m 18 #[.val (.int u0), .val (.int u1), .val (.int (3 : Int32)), .val (.int (2 : Int32)), .unset, .unset, .unset] [(.ref aA)]))
      have S270 : ∀ t, Steps p.tables e below (T269.setTop (mkF m 21 #[.val (.int u0), .val (.int u1), .val (.int (3 : Int32)), .val (.int (2 : Int32)), .val (.ref aA), .unset, .unset] [(.int (2 : Int32))])) t → Steps p.tables e below (T269.setTop (mkF m 18 #[.val (.int u0), .val (.int u1), .val (.int (3 : Int32)), .val (.int (2 : Int32)), .unset, .unset, .unset] [(.ref aA)])) t := by
        intro t k
        show Steps p.tables e below (T269.setTop (mkF m 18 #[.val (.int u0), .val (.int u1), .val (.int (3 : Int32)), .val (.int (2 : Int32)), .unset, .unset, .unset] [(.ref aA)])) t
        refine XS.astore X269.here hx rfl (hb hby at_18) rfl rfl (l' := #[.val (.int u0), .val (.int u1), .val (.int (3 : Int32)), .val (.int (2 : Int32)), .val (.ref aA), .unset, .unset]) rfl ?_
        show Steps p.tables e below (T269.setTop (mkF m 20 #[.val (.int u0), .val (.int u1), .val (.int (3 : Int32)), .val (.int (2 : Int32)), .val (.ref aA), .unset, .unset] [])) t
        refine XS.iloadN X269.here hx rfl (hb hby at_20) rfl ?_
        exact k
      refine OFin.go S270 ?_
      obtain ⟨_, T271, Lc271, X271, hQ271, st271⟩ := callQ X269 hx hZ (y := (⟨"com/example/stowage/stowage/ip/ProfileFollowsPinLaw", "pick", "(I)Lcom/example/stowage/stowage/ip/Profile;"⟩ : MethodName)) hown (hw _ (List.mem_of_getElem? (i := 1) rfl)) (hw _ (List.mem_of_getElem? (i := 2) rfl)) (hw _ (List.mem_of_getElem? (i := 3) rfl)) (hw _ (List.mem_of_getElem? (i := 4) rfl)) (by decide) (argsL := [(.int (2 : Int32))]) (rest := []) (rm1 l Z a0 hw [] (2 : Int32) aC aS aT aA h0 n0 Z0 SaC SaS SaT SaA) (W := 0) (by decide) (by decide) e269 (g := (mkF m 21 #[.val (.int u0), .val (.int u1), .val (.int (3 : Int32)), .val (.int (2 : Int32)), .val (.ref aA), .unset, .unset] [(.int (2 : Int32))])) rfl (by rw [hml]; rfl) (lenOf pd_0 rfl) rfl (by show 2 * 0 + _ ≤ _; exact Nat.le_of_eq rfl) (hb hby at_21) (Nat.le_of_ble_eq_true rfl) (Nat.le_of_ble_eq_true rfl)
      obtain ⟨rfl, N271q, e271⟩ := hQ271
      have N271 := Fr.app N269 N271q
      refine OFin.go st271 ?_
      show OFin p e below _ (T271.setTop (mkF m 24 #[.val (.int u0), .val (.int u1), .val (.int (3 : Int32)), .val (.int (2 : Int32)), .val (.ref aA), .unset, .unset] [(.ref aT)]))
      have S272 : ∀ t, Steps p.tables e below (T271.setTop (mkF m 28 #[.val (.int u0), .val (.int u1), .val (.int (3 : Int32)), .val (.int (2 : Int32)), .val (.ref aA), .val (.ref aT), .unset] [(.int (4 : Int32)), (.int (2 : Int32))])) t → Steps p.tables e below (T271.setTop (mkF m 24 #[.val (.int u0), .val (.int u1), .val (.int (3 : Int32)), .val (.int (2 : Int32)), .val (.ref aA), .unset, .unset] [(.ref aT)])) t := by
        intro t k
        show Steps p.tables e below (T271.setTop (mkF m 24 #[.val (.int u0), .val (.int u1), .val (.int (3 : Int32)), .val (.int (2 : Int32)), .val (.ref aA), .unset, .unset] [(.ref aT)])) t
        refine XS.astore X271.here hx rfl (hb hby at_24) rfl rfl (l' := #[.val (.int u0), .val (.int u1), .val (.int (3 : Int32)), .val (.int (2 : Int32)), .val (.ref aA), .val (.ref aT), .unset]) rfl ?_
        show Steps p.tables e below (T271.setTop (mkF m 26 #[.val (.int u0), .val (.int u1), .val (.int (3 : Int32)), .val (.int (2 : Int32)), .val (.ref aA), .val (.ref aT), .unset] [])) t
        refine XS.iloadN X271.here hx rfl (hb hby at_26) rfl ?_
        show Steps p.tables e below (T271.setTop (mkF m 27 #[.val (.int u0), .val (.int u1), .val (.int (3 : Int32)), .val (.int (2 : Int32)), .val (.ref aA), .val (.ref aT), .unset] [(.int (2 : Int32))])) t
        refine XS.iconst X271.here hx rfl (hb hby at_27) ?_
        exact k
      refine OFin.go S272 ?_
      have S273 : ∀ t, Steps p.tables e below (T271.setTop (mkF m 37 #[.val (.int u0), .val (.int u1), .val (.int (3 : Int32)), .val (.int (2 : Int32)), .val (.ref aA), .val (.ref aT), .unset] [])) t → Steps p.tables e below (T271.setTop (mkF m 28 #[.val (.int u0), .val (.int u1), .val (.int (3 : Int32)), .val (.int (2 : Int32)), .val (.ref aA), .val (.ref aT), .unset] [(.int (4 : Int32)), (.int (2 : Int32))])) t := by
        intro t k
        show Steps p.tables e below (T271.setTop (mkF m 28 #[.val (.int u0), .val (.int u1), .val (.int (3 : Int32)), .val (.int (2 : Int32)), .val (.ref aA), .val (.ref aT), .unset] [(.int (4 : Int32)), (.int (2 : Int32))])) t
        refine XS.icmpYes X271.here hx rfl (pc0 := 28) (pc' := 37) rfl (hb hby at_28) rfl (feq (by decide)).2 (by decide) (by decide) ?_
        exact k
      refine OFin.go S273 ?_
      have S274 : ∀ t, Steps p.tables e below (T271.setTop (mkF m 39 #[.val (.int u0), .val (.int u1), .val (.int (3 : Int32)), .val (.int (2 : Int32)), .val (.ref aA), .val (.ref aT), .unset] [(.int (2 : Int32)), (.int (3 : Int32))])) t → Steps p.tables e below (T271.setTop (mkF m 37 #[.val (.int u0), .val (.int u1), .val (.int (3 : Int32)), .val (.int (2 : Int32)), .val (.ref aA), .val (.ref aT), .unset] [])) t := by
        intro t k
        show Steps p.tables e below (T271.setTop (mkF m 37 #[.val (.int u0), .val (.int u1), .val (.int (3 : Int32)), .val (.int (2 : Int32)), .val (.ref aA), .val (.ref aT), .unset] [])) t
        refine XS.iloadN X271.here hx rfl (hb hby at_37) rfl ?_
        show Steps p.tables e below (T271.setTop (mkF m 38 #[.val (.int u0), .val (.int u1), .val (.int (3 : Int32)), .val (.int (2 : Int32)), .val (.ref aA), .val (.ref aT), .unset] [(.int (3 : Int32))])) t
        refine XS.iloadN X271.here hx rfl (hb hby at_38) rfl ?_
        exact k
      refine OFin.go S274 ?_
      have S275 : ∀ t, Steps p.tables e below (T271.setTop (mkF m 48 #[.val (.int u0), .val (.int u1), .val (.int (3 : Int32)), .val (.int (2 : Int32)), .val (.ref aA), .val (.ref aT), .unset] [])) t → Steps p.tables e below (T271.setTop (mkF m 39 #[.val (.int u0), .val (.int u1), .val (.int (3 : Int32)), .val (.int (2 : Int32)), .val (.ref aA), .val (.ref aT), .unset] [(.int (2 : Int32)), (.int (3 : Int32))])) t := by
        intro t k
        show Steps p.tables e below (T271.setTop (mkF m 39 #[.val (.int u0), .val (.int u1), .val (.int (3 : Int32)), .val (.int (2 : Int32)), .val (.ref aA), .val (.ref aT), .unset] [(.int (2 : Int32)), (.int (3 : Int32))])) t
        refine XS.icmpYes X271.here hx rfl (pc0 := 39) (pc' := 48) rfl (hb hby at_39) rfl (feq (by decide)).2 (by decide) (by decide) ?_
        exact k
      refine OFin.go S275 ?_
      have S276 : ∀ t, Steps p.tables e below (T271.setTop (mkF m 49 #[.val (.int u0), .val (.int u1), .val (.int (3 : Int32)), .val (.int (2 : Int32)), .val (.ref aA), .val (.ref aT), .unset] [(.int (2 : Int32))])) t → Steps p.tables e below (T271.setTop (mkF m 48 #[.val (.int u0), .val (.int u1), .val (.int (3 : Int32)), .val (.int (2 : Int32)), .val (.ref aA), .val (.ref aT), .unset] [])) t := by
        intro t k
        show Steps p.tables e below (T271.setTop (mkF m 48 #[.val (.int u0), .val (.int u1), .val (.int (3 : Int32)), .val (.int (2 : Int32)), .val (.ref aA), .val (.ref aT), .unset] [])) t
        refine XS.iloadN X271.here hx rfl (hb hby at_48) rfl ?_
        exact k
      refine OFin.go S276 ?_
      have S277 : ∀ t, Steps p.tables e below (T271.setTop (mkF m 58 #[.val (.int u0), .val (.int u1), .val (.int (3 : Int32)), .val (.int (2 : Int32)), .val (.ref aA), .val (.ref aT), .unset] [])) t → Steps p.tables e below (T271.setTop (mkF m 49 #[.val (.int u0), .val (.int u1), .val (.int (3 : Int32)), .val (.int (2 : Int32)), .val (.ref aA), .val (.ref aT), .unset] [(.int (2 : Int32))])) t := by
        intro t k
        show Steps p.tables e below (T271.setTop (mkF m 49 #[.val (.int u0), .val (.int u1), .val (.int (3 : Int32)), .val (.int (2 : Int32)), .val (.ref aA), .val (.ref aT), .unset] [(.int (2 : Int32))])) t
        refine XS.ifYes X271.here hx rfl (pc0 := 49) (pc' := 58) rfl (hb hby at_49) rfl ((if0 _ _).trans (feq (by decide)).2) (by decide) (by decide) ?_
        exact k
      refine OFin.go S277 ?_
      have S278 : ∀ t, Steps p.tables e below (T271.setTop (mkF m 60 #[.val (.int u0), .val (.int u1), .val (.int (3 : Int32)), .val (.int (2 : Int32)), .val (.ref aA), .val (.ref aT), .unset] [(.int (2 : Int32)), (.int (3 : Int32))])) t → Steps p.tables e below (T271.setTop (mkF m 58 #[.val (.int u0), .val (.int u1), .val (.int (3 : Int32)), .val (.int (2 : Int32)), .val (.ref aA), .val (.ref aT), .unset] [])) t := by
        intro t k
        show Steps p.tables e below (T271.setTop (mkF m 58 #[.val (.int u0), .val (.int u1), .val (.int (3 : Int32)), .val (.int (2 : Int32)), .val (.ref aA), .val (.ref aT), .unset] [])) t
        refine XS.iloadN X271.here hx rfl (hb hby at_58) rfl ?_
        show Steps p.tables e below (T271.setTop (mkF m 59 #[.val (.int u0), .val (.int u1), .val (.int (3 : Int32)), .val (.int (2 : Int32)), .val (.ref aA), .val (.ref aT), .unset] [(.int (3 : Int32))])) t
        refine XS.iconst X271.here hx rfl (hb hby at_59) ?_
        exact k
      refine OFin.go S278 ?_
      have S279 : ∀ t, Steps p.tables e below (T271.setTop (mkF m 74 #[.val (.int u0), .val (.int u1), .val (.int (3 : Int32)), .val (.int (2 : Int32)), .val (.ref aA), .val (.ref aT), .unset] [])) t → Steps p.tables e below (T271.setTop (mkF m 60 #[.val (.int u0), .val (.int u1), .val (.int (3 : Int32)), .val (.int (2 : Int32)), .val (.ref aA), .val (.ref aT), .unset] [(.int (2 : Int32)), (.int (3 : Int32))])) t := by
        intro t k
        show Steps p.tables e below (T271.setTop (mkF m 60 #[.val (.int u0), .val (.int u1), .val (.int (3 : Int32)), .val (.int (2 : Int32)), .val (.ref aA), .val (.ref aT), .unset] [(.int (2 : Int32)), (.int (3 : Int32))])) t
        refine XS.icmpYes X271.here hx rfl (pc0 := 60) (pc' := 74) rfl (hb hby at_60) rfl (feq (by decide)).2 (by decide) (by decide) ?_
        exact k
      refine OFin.go S279 ?_
      have S280 : ∀ t, Steps p.tables e below (T271.setTop (mkF m 81 #[.val (.int u0), .val (.int u1), .val (.int (3 : Int32)), .val (.int (2 : Int32)), .val (.ref aA), .val (.ref aT), .val (.int (0 : Int32))] [(.ref aT), (.ref aA)])) t → Steps p.tables e below (T271.setTop (mkF m 74 #[.val (.int u0), .val (.int u1), .val (.int (3 : Int32)), .val (.int (2 : Int32)), .val (.ref aA), .val (.ref aT), .unset] [])) t := by
        intro t k
        show Steps p.tables e below (T271.setTop (mkF m 74 #[.val (.int u0), .val (.int u1), .val (.int (3 : Int32)), .val (.int (2 : Int32)), .val (.ref aA), .val (.ref aT), .unset] [])) t
        refine XS.iconst X271.here hx rfl (hb hby at_74) ?_
        show Steps p.tables e below (T271.setTop (mkF m 75 #[.val (.int u0), .val (.int u1), .val (.int (3 : Int32)), .val (.int (2 : Int32)), .val (.ref aA), .val (.ref aT), .unset] [(.int (0 : Int32))])) t
        refine XS.istore X271.here hx rfl (hb hby at_75) rfl (l' := #[.val (.int u0), .val (.int u1), .val (.int (3 : Int32)), .val (.int (2 : Int32)), .val (.ref aA), .val (.ref aT), .val (.int (0 : Int32))]) rfl ?_
        show Steps p.tables e below (T271.setTop (mkF m 77 #[.val (.int u0), .val (.int u1), .val (.int (3 : Int32)), .val (.int (2 : Int32)), .val (.ref aA), .val (.ref aT), .val (.int (0 : Int32))] [])) t
        refine XS.aload X271.here hx rfl (hb hby at_77) rfl rfl ?_
        show Steps p.tables e below (T271.setTop (mkF m 79 #[.val (.int u0), .val (.int u1), .val (.int (3 : Int32)), .val (.int (2 : Int32)), .val (.ref aA), .val (.ref aT), .val (.int (0 : Int32))] [(.ref aA)])) t
        refine XS.aload X271.here hx rfl (hb hby at_79) rfl rfl ?_
        exact k
      refine OFin.go S280 ?_
      obtain ⟨_, T281, Lc281, X281, hQ281, st281⟩ := virtQ X271 hx hZ (y := (⟨"com/example/stowage/stowage/ip/Profile", "follows", "(Lcom/example/stowage/stowage/ip/Profile;)Z"⟩ : MethodName)) hown (hw _ (List.mem_of_getElem? (i := 10) rfl)) (hw _ (List.mem_of_getElem? (i := 12) rfl)) (hw _ (List.mem_of_getElem? (i := 6) rfl)) (hw _ (List.mem_of_getElem? (i := 14) rfl)) (hw _ (List.mem_of_getElem? (i := 11) rfl)) (hw _ (List.mem_of_getElem? (i := 13) rfl)) (by decide) EaA (argsL := [(.ref aT)]) (rest := []) (rm2_3_2 l Z a0 hw [] aC aS aT aA h0 n0 Z0 FaC FaS FaT FaA naCaS naCaT naCaA naSaT naSaA naTaA) (W := 0) (by decide) (by decide) e271 (g := (mkF m 81 #[.val (.int u0), .val (.int u1), .val (.int (3 : Int32)), .val (.int (2 : Int32)), .val (.ref aA), .val (.ref aT), .val (.int (0 : Int32))] [(.ref aT), (.ref aA)])) rfl (by rw [hml]; rfl) (lenOf pd_1 rfl) rfl (by show 2 * 0 + _ ≤ _; exact Nat.le_of_eq rfl) (hb hby at_81) (Nat.le_of_ble_eq_true rfl) (Nat.le_of_ble_eq_true rfl)
      obtain ⟨rfl, N281q, e281⟩ := hQ281
      have N281 := Fr.app N271 N281q
      refine OFin.go st281 ?_
      show OFin p e below _ (T281.setTop (mkF m 84 #[.val (.int u0), .val (.int u1), .val (.int (3 : Int32)), .val (.int (2 : Int32)), .val (.ref aA), .val (.ref aT), .val (.int (0 : Int32))] [(.int (0 : Int32))]))
      have S282 : ∀ t, Steps p.tables e below (T281.setTop (mkF m 86 #[.val (.int u0), .val (.int u1), .val (.int (3 : Int32)), .val (.int (2 : Int32)), .val (.ref aA), .val (.ref aT), .val (.int (0 : Int32))] [(.int (0 : Int32)), (.int (0 : Int32))])) t → Steps p.tables e below (T281.setTop (mkF m 84 #[.val (.int u0), .val (.int u1), .val (.int (3 : Int32)), .val (.int (2 : Int32)), .val (.ref aA), .val (.ref aT), .val (.int (0 : Int32))] [(.int (0 : Int32))])) t := by
        intro t k
        show Steps p.tables e below (T281.setTop (mkF m 84 #[.val (.int u0), .val (.int u1), .val (.int (3 : Int32)), .val (.int (2 : Int32)), .val (.ref aA), .val (.ref aT), .val (.int (0 : Int32))] [(.int (0 : Int32))])) t
        refine XS.iload X281.here hx rfl (hb hby at_84) rfl ?_
        exact k
      refine OFin.go S282 ?_
      have S283 : ∀ t, Steps p.tables e below (T281.setTop (mkF m 89 #[.val (.int u0), .val (.int u1), .val (.int (3 : Int32)), .val (.int (2 : Int32)), .val (.ref aA), .val (.ref aT), .val (.int (0 : Int32))] [])) t → Steps p.tables e below (T281.setTop (mkF m 86 #[.val (.int u0), .val (.int u1), .val (.int (3 : Int32)), .val (.int (2 : Int32)), .val (.ref aA), .val (.ref aT), .val (.int (0 : Int32))] [(.int (0 : Int32)), (.int (0 : Int32))])) t := by
        intro t k
        show Steps p.tables e below (T281.setTop (mkF m 86 #[.val (.int u0), .val (.int u1), .val (.int (3 : Int32)), .val (.int (2 : Int32)), .val (.ref aA), .val (.ref aT), .val (.int (0 : Int32))] [(.int (0 : Int32)), (.int (0 : Int32))])) t
        refine XS.icmpNo X281.here hx rfl (hb hby at_86) rfl (teq (by decide)).2 ?_
        exact k
      refine OFin.go S283 ?_
      have S284 : ∀ t, Steps p.tables e below (T281.setTop (mkF m 94 #[.val (.int u0), .val (.int u1), .val (.int (3 : Int32)), .val (.int (2 : Int32)), .val (.ref aA), .val (.ref aT), .val (.int (0 : Int32))] [(.int (1 : Int32))])) t → Steps p.tables e below (T281.setTop (mkF m 89 #[.val (.int u0), .val (.int u1), .val (.int (3 : Int32)), .val (.int (2 : Int32)), .val (.ref aA), .val (.ref aT), .val (.int (0 : Int32))] [])) t := by
        intro t k
        show Steps p.tables e below (T281.setTop (mkF m 89 #[.val (.int u0), .val (.int u1), .val (.int (3 : Int32)), .val (.int (2 : Int32)), .val (.ref aA), .val (.ref aT), .val (.int (0 : Int32))] [])) t
        refine XS.iconst X281.here hx rfl (hb hby at_89) ?_
        show Steps p.tables e below (T281.setTop (mkF m 90 #[.val (.int u0), .val (.int u1), .val (.int (3 : Int32)), .val (.int (2 : Int32)), .val (.ref aA), .val (.ref aT), .val (.int (0 : Int32))] [(.int (1 : Int32))])) t
        refine XS.goto X281.here hx rfl (pc0 := 90) (pc' := 94) rfl (hb hby at_90) (by decide) (by decide) ?_
        exact k
      refine OFin.go S284 ?_
      exact finZ X281 hx Bd.notSynchronized (t := .boolean) Bd.returns (by simp) (hb hby at_94) rfl (by decide) (by decide) (⟨congrArg (fun z => some (Value.int z)) (rfl : (1 : Int32) = (1 : Int32)), N281⟩)
    ·
      subst hkk235'
      show OFin p e below _ (s₁.setTop (mkF m 14 #[.val (.int u0), .val (.int u1), .val (.int (3 : Int32)), .val (.int (3 : Int32)), .unset, .unset, .unset] []))
      have S285 : ∀ t, Steps p.tables e below (s₁.setTop (mkF m 15 #[.val (.int u0), .val (.int u1), .val (.int (3 : Int32)), .val (.int (3 : Int32)), .unset, .unset, .unset] [(.int (3 : Int32))])) t → Steps p.tables e below (s₁.setTop (mkF m 14 #[.val (.int u0), .val (.int u1), .val (.int (3 : Int32)), .val (.int (3 : Int32)), .unset, .unset, .unset] [])) t := by
        intro t k
        show Steps p.tables e below (s₁.setTop (mkF m 14 #[.val (.int u0), .val (.int u1), .val (.int (3 : Int32)), .val (.int (3 : Int32)), .unset, .unset, .unset] [])) t
        refine XS.iloadN X0.here hx rfl (hb hby at_14) rfl ?_
        exact k
      refine OFin.go S285 ?_
      obtain ⟨_, T286, Lc286, X286, hQ286, st286⟩ := callQ X0 hx hZ (y := (⟨"com/example/stowage/stowage/ip/ProfileFollowsPinLaw", "pick", "(I)Lcom/example/stowage/stowage/ip/Profile;"⟩ : MethodName)) hown (hw _ (List.mem_of_getElem? (i := 1) rfl)) (hw _ (List.mem_of_getElem? (i := 2) rfl)) (hw _ (List.mem_of_getElem? (i := 3) rfl)) (hw _ (List.mem_of_getElem? (i := 4) rfl)) (by decide) (argsL := [(.int (3 : Int32))]) (rest := []) (rm1 l Z a0 hw [] (3 : Int32) aC aS aT aA h0 n0 Z0 SaC SaS SaT SaA) (W := 0) (by decide) (by decide) e0 (g := (mkF m 15 #[.val (.int u0), .val (.int u1), .val (.int (3 : Int32)), .val (.int (3 : Int32)), .unset, .unset, .unset] [(.int (3 : Int32))])) rfl (by rw [hml]; rfl) (lenOf pd_0 rfl) rfl (by show 2 * 0 + _ ≤ _; exact Nat.le_of_eq rfl) (hb hby at_15) (Nat.le_of_ble_eq_true rfl) (Nat.le_of_ble_eq_true rfl)
      obtain ⟨rfl, N286q, e286⟩ := hQ286
      have N286 := Fr.app N0 N286q
      refine OFin.go st286 ?_
      show OFin p e below _ (T286.setTop (mkF m 18 #[.val (.int u0), .val (.int u1), .val (.int (3 : Int32)), .val (.int (3 : Int32)), .unset, .unset, .unset] [(.ref aA)]))
      have S287 : ∀ t, Steps p.tables e below (T286.setTop (mkF m 21 #[.val (.int u0), .val (.int u1), .val (.int (3 : Int32)), .val (.int (3 : Int32)), .val (.ref aA), .unset, .unset] [(.int (3 : Int32))])) t → Steps p.tables e below (T286.setTop (mkF m 18 #[.val (.int u0), .val (.int u1), .val (.int (3 : Int32)), .val (.int (3 : Int32)), .unset, .unset, .unset] [(.ref aA)])) t := by
        intro t k
        show Steps p.tables e below (T286.setTop (mkF m 18 #[.val (.int u0), .val (.int u1), .val (.int (3 : Int32)), .val (.int (3 : Int32)), .unset, .unset, .unset] [(.ref aA)])) t
        refine XS.astore X286.here hx rfl (hb hby at_18) rfl rfl (l' := #[.val (.int u0), .val (.int u1), .val (.int (3 : Int32)), .val (.int (3 : Int32)), .val (.ref aA), .unset, .unset]) rfl ?_
        show Steps p.tables e below (T286.setTop (mkF m 20 #[.val (.int u0), .val (.int u1), .val (.int (3 : Int32)), .val (.int (3 : Int32)), .val (.ref aA), .unset, .unset] [])) t
        refine XS.iloadN X286.here hx rfl (hb hby at_20) rfl ?_
        exact k
      refine OFin.go S287 ?_
      obtain ⟨_, T288, Lc288, X288, hQ288, st288⟩ := callQ X286 hx hZ (y := (⟨"com/example/stowage/stowage/ip/ProfileFollowsPinLaw", "pick", "(I)Lcom/example/stowage/stowage/ip/Profile;"⟩ : MethodName)) hown (hw _ (List.mem_of_getElem? (i := 1) rfl)) (hw _ (List.mem_of_getElem? (i := 2) rfl)) (hw _ (List.mem_of_getElem? (i := 3) rfl)) (hw _ (List.mem_of_getElem? (i := 4) rfl)) (by decide) (argsL := [(.int (3 : Int32))]) (rest := []) (rm1 l Z a0 hw [] (3 : Int32) aC aS aT aA h0 n0 Z0 SaC SaS SaT SaA) (W := 0) (by decide) (by decide) e286 (g := (mkF m 21 #[.val (.int u0), .val (.int u1), .val (.int (3 : Int32)), .val (.int (3 : Int32)), .val (.ref aA), .unset, .unset] [(.int (3 : Int32))])) rfl (by rw [hml]; rfl) (lenOf pd_0 rfl) rfl (by show 2 * 0 + _ ≤ _; exact Nat.le_of_eq rfl) (hb hby at_21) (Nat.le_of_ble_eq_true rfl) (Nat.le_of_ble_eq_true rfl)
      obtain ⟨rfl, N288q, e288⟩ := hQ288
      have N288 := Fr.app N286 N288q
      refine OFin.go st288 ?_
      show OFin p e below _ (T288.setTop (mkF m 24 #[.val (.int u0), .val (.int u1), .val (.int (3 : Int32)), .val (.int (3 : Int32)), .val (.ref aA), .unset, .unset] [(.ref aA)]))
      have S289 : ∀ t, Steps p.tables e below (T288.setTop (mkF m 28 #[.val (.int u0), .val (.int u1), .val (.int (3 : Int32)), .val (.int (3 : Int32)), .val (.ref aA), .val (.ref aA), .unset] [(.int (4 : Int32)), (.int (3 : Int32))])) t → Steps p.tables e below (T288.setTop (mkF m 24 #[.val (.int u0), .val (.int u1), .val (.int (3 : Int32)), .val (.int (3 : Int32)), .val (.ref aA), .unset, .unset] [(.ref aA)])) t := by
        intro t k
        show Steps p.tables e below (T288.setTop (mkF m 24 #[.val (.int u0), .val (.int u1), .val (.int (3 : Int32)), .val (.int (3 : Int32)), .val (.ref aA), .unset, .unset] [(.ref aA)])) t
        refine XS.astore X288.here hx rfl (hb hby at_24) rfl rfl (l' := #[.val (.int u0), .val (.int u1), .val (.int (3 : Int32)), .val (.int (3 : Int32)), .val (.ref aA), .val (.ref aA), .unset]) rfl ?_
        show Steps p.tables e below (T288.setTop (mkF m 26 #[.val (.int u0), .val (.int u1), .val (.int (3 : Int32)), .val (.int (3 : Int32)), .val (.ref aA), .val (.ref aA), .unset] [])) t
        refine XS.iloadN X288.here hx rfl (hb hby at_26) rfl ?_
        show Steps p.tables e below (T288.setTop (mkF m 27 #[.val (.int u0), .val (.int u1), .val (.int (3 : Int32)), .val (.int (3 : Int32)), .val (.ref aA), .val (.ref aA), .unset] [(.int (3 : Int32))])) t
        refine XS.iconst X288.here hx rfl (hb hby at_27) ?_
        exact k
      refine OFin.go S289 ?_
      have S290 : ∀ t, Steps p.tables e below (T288.setTop (mkF m 37 #[.val (.int u0), .val (.int u1), .val (.int (3 : Int32)), .val (.int (3 : Int32)), .val (.ref aA), .val (.ref aA), .unset] [])) t → Steps p.tables e below (T288.setTop (mkF m 28 #[.val (.int u0), .val (.int u1), .val (.int (3 : Int32)), .val (.int (3 : Int32)), .val (.ref aA), .val (.ref aA), .unset] [(.int (4 : Int32)), (.int (3 : Int32))])) t := by
        intro t k
        show Steps p.tables e below (T288.setTop (mkF m 28 #[.val (.int u0), .val (.int u1), .val (.int (3 : Int32)), .val (.int (3 : Int32)), .val (.ref aA), .val (.ref aA), .unset] [(.int (4 : Int32)), (.int (3 : Int32))])) t
        refine XS.icmpYes X288.here hx rfl (pc0 := 28) (pc' := 37) rfl (hb hby at_28) rfl (feq (by decide)).2 (by decide) (by decide) ?_
        exact k
      refine OFin.go S290 ?_
      have S291 : ∀ t, Steps p.tables e below (T288.setTop (mkF m 39 #[.val (.int u0), .val (.int u1), .val (.int (3 : Int32)), .val (.int (3 : Int32)), .val (.ref aA), .val (.ref aA), .unset] [(.int (3 : Int32)), (.int (3 : Int32))])) t → Steps p.tables e below (T288.setTop (mkF m 37 #[.val (.int u0), .val (.int u1), .val (.int (3 : Int32)), .val (.int (3 : Int32)), .val (.ref aA), .val (.ref aA), .unset] [])) t := by
        intro t k
        show Steps p.tables e below (T288.setTop (mkF m 37 #[.val (.int u0), .val (.int u1), .val (.int (3 : Int32)), .val (.int (3 : Int32)), .val (.ref aA), .val (.ref aA), .unset] [])) t
        refine XS.iloadN X288.here hx rfl (hb hby at_37) rfl ?_
        show Steps p.tables e below (T288.setTop (mkF m 38 #[.val (.int u0), .val (.int u1), .val (.int (3 : Int32)), .val (.int (3 : Int32)), .val (.ref aA), .val (.ref aA), .unset] [(.int (3 : Int32))])) t
        refine XS.iloadN X288.here hx rfl (hb hby at_38) rfl ?_
        exact k
      refine OFin.go S291 ?_
      have S292 : ∀ t, Steps p.tables e below (T288.setTop (mkF m 42 #[.val (.int u0), .val (.int u1), .val (.int (3 : Int32)), .val (.int (3 : Int32)), .val (.ref aA), .val (.ref aA), .unset] [])) t → Steps p.tables e below (T288.setTop (mkF m 39 #[.val (.int u0), .val (.int u1), .val (.int (3 : Int32)), .val (.int (3 : Int32)), .val (.ref aA), .val (.ref aA), .unset] [(.int (3 : Int32)), (.int (3 : Int32))])) t := by
        intro t k
        show Steps p.tables e below (T288.setTop (mkF m 39 #[.val (.int u0), .val (.int u1), .val (.int (3 : Int32)), .val (.int (3 : Int32)), .val (.ref aA), .val (.ref aA), .unset] [(.int (3 : Int32)), (.int (3 : Int32))])) t
        refine XS.icmpNo X288.here hx rfl (hb hby at_39) rfl (teq (by decide)).2 ?_
        exact k
      refine OFin.go S292 ?_
      have S293 : ∀ t, Steps p.tables e below (T288.setTop (mkF m 81 #[.val (.int u0), .val (.int u1), .val (.int (3 : Int32)), .val (.int (3 : Int32)), .val (.ref aA), .val (.ref aA), .val (.int (1 : Int32))] [(.ref aA), (.ref aA)])) t → Steps p.tables e below (T288.setTop (mkF m 42 #[.val (.int u0), .val (.int u1), .val (.int (3 : Int32)), .val (.int (3 : Int32)), .val (.ref aA), .val (.ref aA), .unset] [])) t := by
        intro t k
        show Steps p.tables e below (T288.setTop (mkF m 42 #[.val (.int u0), .val (.int u1), .val (.int (3 : Int32)), .val (.int (3 : Int32)), .val (.ref aA), .val (.ref aA), .unset] [])) t
        refine XS.iconst X288.here hx rfl (hb hby at_42) ?_
        show Steps p.tables e below (T288.setTop (mkF m 43 #[.val (.int u0), .val (.int u1), .val (.int (3 : Int32)), .val (.int (3 : Int32)), .val (.ref aA), .val (.ref aA), .unset] [(.int (1 : Int32))])) t
        refine XS.istore X288.here hx rfl (hb hby at_43) rfl (l' := #[.val (.int u0), .val (.int u1), .val (.int (3 : Int32)), .val (.int (3 : Int32)), .val (.ref aA), .val (.ref aA), .val (.int (1 : Int32))]) rfl ?_
        show Steps p.tables e below (T288.setTop (mkF m 45 #[.val (.int u0), .val (.int u1), .val (.int (3 : Int32)), .val (.int (3 : Int32)), .val (.ref aA), .val (.ref aA), .val (.int (1 : Int32))] [])) t
        refine XS.goto X288.here hx rfl (pc0 := 45) (pc' := 77) rfl (hb hby at_45) (by decide) (by decide) ?_
        show Steps p.tables e below (T288.setTop (mkF m 77 #[.val (.int u0), .val (.int u1), .val (.int (3 : Int32)), .val (.int (3 : Int32)), .val (.ref aA), .val (.ref aA), .val (.int (1 : Int32))] [])) t
        refine XS.aload X288.here hx rfl (hb hby at_77) rfl rfl ?_
        show Steps p.tables e below (T288.setTop (mkF m 79 #[.val (.int u0), .val (.int u1), .val (.int (3 : Int32)), .val (.int (3 : Int32)), .val (.ref aA), .val (.ref aA), .val (.int (1 : Int32))] [(.ref aA)])) t
        refine XS.aload X288.here hx rfl (hb hby at_79) rfl rfl ?_
        exact k
      refine OFin.go S293 ?_
      obtain ⟨_, T294, Lc294, X294, hQ294, st294⟩ := virtQ X288 hx hZ (y := (⟨"com/example/stowage/stowage/ip/Profile", "follows", "(Lcom/example/stowage/stowage/ip/Profile;)Z"⟩ : MethodName)) hown (hw _ (List.mem_of_getElem? (i := 10) rfl)) (hw _ (List.mem_of_getElem? (i := 12) rfl)) (hw _ (List.mem_of_getElem? (i := 6) rfl)) (hw _ (List.mem_of_getElem? (i := 14) rfl)) (hw _ (List.mem_of_getElem? (i := 11) rfl)) (hw _ (List.mem_of_getElem? (i := 13) rfl)) (by decide) EaA (argsL := [(.ref aA)]) (rest := []) (rm2_3_3 l Z a0 hw [] aC aS aT aA h0 n0 Z0 FaC FaS FaT FaA naCaS naCaT naCaA naSaT naSaA naTaA) (W := 0) (by decide) (by decide) e288 (g := (mkF m 81 #[.val (.int u0), .val (.int u1), .val (.int (3 : Int32)), .val (.int (3 : Int32)), .val (.ref aA), .val (.ref aA), .val (.int (1 : Int32))] [(.ref aA), (.ref aA)])) rfl (by rw [hml]; rfl) (lenOf pd_1 rfl) rfl (by show 2 * 0 + _ ≤ _; exact Nat.le_of_eq rfl) (hb hby at_81) (Nat.le_of_ble_eq_true rfl) (Nat.le_of_ble_eq_true rfl)
      obtain ⟨rfl, N294q, e294⟩ := hQ294
      have N294 := Fr.app N288 N294q
      refine OFin.go st294 ?_
      show OFin p e below _ (T294.setTop (mkF m 84 #[.val (.int u0), .val (.int u1), .val (.int (3 : Int32)), .val (.int (3 : Int32)), .val (.ref aA), .val (.ref aA), .val (.int (1 : Int32))] [(.int (1 : Int32))]))
      have S295 : ∀ t, Steps p.tables e below (T294.setTop (mkF m 86 #[.val (.int u0), .val (.int u1), .val (.int (3 : Int32)), .val (.int (3 : Int32)), .val (.ref aA), .val (.ref aA), .val (.int (1 : Int32))] [(.int (1 : Int32)), (.int (1 : Int32))])) t → Steps p.tables e below (T294.setTop (mkF m 84 #[.val (.int u0), .val (.int u1), .val (.int (3 : Int32)), .val (.int (3 : Int32)), .val (.ref aA), .val (.ref aA), .val (.int (1 : Int32))] [(.int (1 : Int32))])) t := by
        intro t k
        show Steps p.tables e below (T294.setTop (mkF m 84 #[.val (.int u0), .val (.int u1), .val (.int (3 : Int32)), .val (.int (3 : Int32)), .val (.ref aA), .val (.ref aA), .val (.int (1 : Int32))] [(.int (1 : Int32))])) t
        refine XS.iload X294.here hx rfl (hb hby at_84) rfl ?_
        exact k
      refine OFin.go S295 ?_
      have S296 : ∀ t, Steps p.tables e below (T294.setTop (mkF m 89 #[.val (.int u0), .val (.int u1), .val (.int (3 : Int32)), .val (.int (3 : Int32)), .val (.ref aA), .val (.ref aA), .val (.int (1 : Int32))] [])) t → Steps p.tables e below (T294.setTop (mkF m 86 #[.val (.int u0), .val (.int u1), .val (.int (3 : Int32)), .val (.int (3 : Int32)), .val (.ref aA), .val (.ref aA), .val (.int (1 : Int32))] [(.int (1 : Int32)), (.int (1 : Int32))])) t := by
        intro t k
        show Steps p.tables e below (T294.setTop (mkF m 86 #[.val (.int u0), .val (.int u1), .val (.int (3 : Int32)), .val (.int (3 : Int32)), .val (.ref aA), .val (.ref aA), .val (.int (1 : Int32))] [(.int (1 : Int32)), (.int (1 : Int32))])) t
        refine XS.icmpNo X294.here hx rfl (hb hby at_86) rfl (teq (by decide)).2 ?_
        exact k
      refine OFin.go S296 ?_
      have S297 : ∀ t, Steps p.tables e below (T294.setTop (mkF m 94 #[.val (.int u0), .val (.int u1), .val (.int (3 : Int32)), .val (.int (3 : Int32)), .val (.ref aA), .val (.ref aA), .val (.int (1 : Int32))] [(.int (1 : Int32))])) t → Steps p.tables e below (T294.setTop (mkF m 89 #[.val (.int u0), .val (.int u1), .val (.int (3 : Int32)), .val (.int (3 : Int32)), .val (.ref aA), .val (.ref aA), .val (.int (1 : Int32))] [])) t := by
        intro t k
        show Steps p.tables e below (T294.setTop (mkF m 89 #[.val (.int u0), .val (.int u1), .val (.int (3 : Int32)), .val (.int (3 : Int32)), .val (.ref aA), .val (.ref aA), .val (.int (1 : Int32))] [])) t
        refine XS.iconst X294.here hx rfl (hb hby at_89) ?_
        show Steps p.tables e below (T294.setTop (mkF m 90 #[.val (.int u0), .val (.int u1), .val (.int (3 : Int32)), .val (.int (3 : Int32)), .val (.ref aA), .val (.ref aA), .val (.int (1 : Int32))] [(.int (1 : Int32))])) t
        refine XS.goto X294.here hx rfl (pc0 := 90) (pc' := 94) rfl (hb hby at_90) (by decide) (by decide) ?_
        exact k
      refine OFin.go S297 ?_
      exact finZ X294 hx Bd.notSynchronized (t := .boolean) Bd.returns (by simp) (hb hby at_94) rfl (by decide) (by decide) (⟨congrArg (fun z => some (Value.int z)) (rfl : (1 : Int32) = (1 : Int32)), N294⟩)
    ·
      subst hkk235'
      show OFin p e below _ (s₁.setTop (mkF m 14 #[.val (.int u0), .val (.int u1), .val (.int (3 : Int32)), .val (.int (4 : Int32)), .unset, .unset, .unset] []))
      have S298 : ∀ t, Steps p.tables e below (s₁.setTop (mkF m 15 #[.val (.int u0), .val (.int u1), .val (.int (3 : Int32)), .val (.int (4 : Int32)), .unset, .unset, .unset] [(.int (3 : Int32))])) t → Steps p.tables e below (s₁.setTop (mkF m 14 #[.val (.int u0), .val (.int u1), .val (.int (3 : Int32)), .val (.int (4 : Int32)), .unset, .unset, .unset] [])) t := by
        intro t k
        show Steps p.tables e below (s₁.setTop (mkF m 14 #[.val (.int u0), .val (.int u1), .val (.int (3 : Int32)), .val (.int (4 : Int32)), .unset, .unset, .unset] [])) t
        refine XS.iloadN X0.here hx rfl (hb hby at_14) rfl ?_
        exact k
      refine OFin.go S298 ?_
      obtain ⟨_, T299, Lc299, X299, hQ299, st299⟩ := callQ X0 hx hZ (y := (⟨"com/example/stowage/stowage/ip/ProfileFollowsPinLaw", "pick", "(I)Lcom/example/stowage/stowage/ip/Profile;"⟩ : MethodName)) hown (hw _ (List.mem_of_getElem? (i := 1) rfl)) (hw _ (List.mem_of_getElem? (i := 2) rfl)) (hw _ (List.mem_of_getElem? (i := 3) rfl)) (hw _ (List.mem_of_getElem? (i := 4) rfl)) (by decide) (argsL := [(.int (3 : Int32))]) (rest := []) (rm1 l Z a0 hw [] (3 : Int32) aC aS aT aA h0 n0 Z0 SaC SaS SaT SaA) (W := 0) (by decide) (by decide) e0 (g := (mkF m 15 #[.val (.int u0), .val (.int u1), .val (.int (3 : Int32)), .val (.int (4 : Int32)), .unset, .unset, .unset] [(.int (3 : Int32))])) rfl (by rw [hml]; rfl) (lenOf pd_0 rfl) rfl (by show 2 * 0 + _ ≤ _; exact Nat.le_of_eq rfl) (hb hby at_15) (Nat.le_of_ble_eq_true rfl) (Nat.le_of_ble_eq_true rfl)
      obtain ⟨rfl, N299q, e299⟩ := hQ299
      have N299 := Fr.app N0 N299q
      refine OFin.go st299 ?_
      show OFin p e below _ (T299.setTop (mkF m 18 #[.val (.int u0), .val (.int u1), .val (.int (3 : Int32)), .val (.int (4 : Int32)), .unset, .unset, .unset] [(.ref aA)]))
      have S300 : ∀ t, Steps p.tables e below (T299.setTop (mkF m 21 #[.val (.int u0), .val (.int u1), .val (.int (3 : Int32)), .val (.int (4 : Int32)), .val (.ref aA), .unset, .unset] [(.int (4 : Int32))])) t → Steps p.tables e below (T299.setTop (mkF m 18 #[.val (.int u0), .val (.int u1), .val (.int (3 : Int32)), .val (.int (4 : Int32)), .unset, .unset, .unset] [(.ref aA)])) t := by
        intro t k
        show Steps p.tables e below (T299.setTop (mkF m 18 #[.val (.int u0), .val (.int u1), .val (.int (3 : Int32)), .val (.int (4 : Int32)), .unset, .unset, .unset] [(.ref aA)])) t
        refine XS.astore X299.here hx rfl (hb hby at_18) rfl rfl (l' := #[.val (.int u0), .val (.int u1), .val (.int (3 : Int32)), .val (.int (4 : Int32)), .val (.ref aA), .unset, .unset]) rfl ?_
        show Steps p.tables e below (T299.setTop (mkF m 20 #[.val (.int u0), .val (.int u1), .val (.int (3 : Int32)), .val (.int (4 : Int32)), .val (.ref aA), .unset, .unset] [])) t
        refine XS.iloadN X299.here hx rfl (hb hby at_20) rfl ?_
        exact k
      refine OFin.go S300 ?_
      obtain ⟨_, T301, Lc301, X301, hQ301, st301⟩ := callQ X299 hx hZ (y := (⟨"com/example/stowage/stowage/ip/ProfileFollowsPinLaw", "pick", "(I)Lcom/example/stowage/stowage/ip/Profile;"⟩ : MethodName)) hown (hw _ (List.mem_of_getElem? (i := 1) rfl)) (hw _ (List.mem_of_getElem? (i := 2) rfl)) (hw _ (List.mem_of_getElem? (i := 3) rfl)) (hw _ (List.mem_of_getElem? (i := 4) rfl)) (by decide) (argsL := [(.int (4 : Int32))]) (rest := []) (rm1 l Z a0 hw [] (4 : Int32) aC aS aT aA h0 n0 Z0 SaC SaS SaT SaA) (W := 0) (by decide) (by decide) e299 (g := (mkF m 21 #[.val (.int u0), .val (.int u1), .val (.int (3 : Int32)), .val (.int (4 : Int32)), .val (.ref aA), .unset, .unset] [(.int (4 : Int32))])) rfl (by rw [hml]; rfl) (lenOf pd_0 rfl) rfl (by show 2 * 0 + _ ≤ _; exact Nat.le_of_eq rfl) (hb hby at_21) (Nat.le_of_ble_eq_true rfl) (Nat.le_of_ble_eq_true rfl)
      obtain ⟨rfl, N301q, e301⟩ := hQ301
      have N301 := Fr.app N299 N301q
      refine OFin.go st301 ?_
      show OFin p e below _ (T301.setTop (mkF m 24 #[.val (.int u0), .val (.int u1), .val (.int (3 : Int32)), .val (.int (4 : Int32)), .val (.ref aA), .unset, .unset] [.null]))
      have S302 : ∀ t, Steps p.tables e below (T301.setTop (mkF m 28 #[.val (.int u0), .val (.int u1), .val (.int (3 : Int32)), .val (.int (4 : Int32)), .val (.ref aA), .val .null, .unset] [(.int (4 : Int32)), (.int (4 : Int32))])) t → Steps p.tables e below (T301.setTop (mkF m 24 #[.val (.int u0), .val (.int u1), .val (.int (3 : Int32)), .val (.int (4 : Int32)), .val (.ref aA), .unset, .unset] [.null])) t := by
        intro t k
        show Steps p.tables e below (T301.setTop (mkF m 24 #[.val (.int u0), .val (.int u1), .val (.int (3 : Int32)), .val (.int (4 : Int32)), .val (.ref aA), .unset, .unset] [.null])) t
        refine XS.astore X301.here hx rfl (hb hby at_24) rfl rfl (l' := #[.val (.int u0), .val (.int u1), .val (.int (3 : Int32)), .val (.int (4 : Int32)), .val (.ref aA), .val .null, .unset]) rfl ?_
        show Steps p.tables e below (T301.setTop (mkF m 26 #[.val (.int u0), .val (.int u1), .val (.int (3 : Int32)), .val (.int (4 : Int32)), .val (.ref aA), .val .null, .unset] [])) t
        refine XS.iloadN X301.here hx rfl (hb hby at_26) rfl ?_
        show Steps p.tables e below (T301.setTop (mkF m 27 #[.val (.int u0), .val (.int u1), .val (.int (3 : Int32)), .val (.int (4 : Int32)), .val (.ref aA), .val .null, .unset] [(.int (4 : Int32))])) t
        refine XS.iconst X301.here hx rfl (hb hby at_27) ?_
        exact k
      refine OFin.go S302 ?_
      have S303 : ∀ t, Steps p.tables e below (T301.setTop (mkF m 31 #[.val (.int u0), .val (.int u1), .val (.int (3 : Int32)), .val (.int (4 : Int32)), .val (.ref aA), .val .null, .unset] [])) t → Steps p.tables e below (T301.setTop (mkF m 28 #[.val (.int u0), .val (.int u1), .val (.int (3 : Int32)), .val (.int (4 : Int32)), .val (.ref aA), .val .null, .unset] [(.int (4 : Int32)), (.int (4 : Int32))])) t := by
        intro t k
        show Steps p.tables e below (T301.setTop (mkF m 28 #[.val (.int u0), .val (.int u1), .val (.int (3 : Int32)), .val (.int (4 : Int32)), .val (.ref aA), .val .null, .unset] [(.int (4 : Int32)), (.int (4 : Int32))])) t
        refine XS.icmpNo X301.here hx rfl (hb hby at_28) rfl (teq (by decide)).2 ?_
        exact k
      refine OFin.go S303 ?_
      have S304 : ∀ t, Steps p.tables e below (T301.setTop (mkF m 81 #[.val (.int u0), .val (.int u1), .val (.int (3 : Int32)), .val (.int (4 : Int32)), .val (.ref aA), .val .null, .val (.int (0 : Int32))] [.null, (.ref aA)])) t → Steps p.tables e below (T301.setTop (mkF m 31 #[.val (.int u0), .val (.int u1), .val (.int (3 : Int32)), .val (.int (4 : Int32)), .val (.ref aA), .val .null, .unset] [])) t := by
        intro t k
        show Steps p.tables e below (T301.setTop (mkF m 31 #[.val (.int u0), .val (.int u1), .val (.int (3 : Int32)), .val (.int (4 : Int32)), .val (.ref aA), .val .null, .unset] [])) t
        refine XS.iconst X301.here hx rfl (hb hby at_31) ?_
        show Steps p.tables e below (T301.setTop (mkF m 32 #[.val (.int u0), .val (.int u1), .val (.int (3 : Int32)), .val (.int (4 : Int32)), .val (.ref aA), .val .null, .unset] [(.int (0 : Int32))])) t
        refine XS.istore X301.here hx rfl (hb hby at_32) rfl (l' := #[.val (.int u0), .val (.int u1), .val (.int (3 : Int32)), .val (.int (4 : Int32)), .val (.ref aA), .val .null, .val (.int (0 : Int32))]) rfl ?_
        show Steps p.tables e below (T301.setTop (mkF m 34 #[.val (.int u0), .val (.int u1), .val (.int (3 : Int32)), .val (.int (4 : Int32)), .val (.ref aA), .val .null, .val (.int (0 : Int32))] [])) t
        refine XS.goto X301.here hx rfl (pc0 := 34) (pc' := 77) rfl (hb hby at_34) (by decide) (by decide) ?_
        show Steps p.tables e below (T301.setTop (mkF m 77 #[.val (.int u0), .val (.int u1), .val (.int (3 : Int32)), .val (.int (4 : Int32)), .val (.ref aA), .val .null, .val (.int (0 : Int32))] [])) t
        refine XS.aload X301.here hx rfl (hb hby at_77) rfl rfl ?_
        show Steps p.tables e below (T301.setTop (mkF m 79 #[.val (.int u0), .val (.int u1), .val (.int (3 : Int32)), .val (.int (4 : Int32)), .val (.ref aA), .val .null, .val (.int (0 : Int32))] [(.ref aA)])) t
        refine XS.aload X301.here hx rfl (hb hby at_79) rfl rfl ?_
        exact k
      refine OFin.go S304 ?_
      obtain ⟨_, T305, Lc305, X305, hQ305, st305⟩ := virtQ X301 hx hZ (y := (⟨"com/example/stowage/stowage/ip/Profile", "follows", "(Lcom/example/stowage/stowage/ip/Profile;)Z"⟩ : MethodName)) hown (hw _ (List.mem_of_getElem? (i := 10) rfl)) (hw _ (List.mem_of_getElem? (i := 12) rfl)) (hw _ (List.mem_of_getElem? (i := 6) rfl)) (hw _ (List.mem_of_getElem? (i := 14) rfl)) (hw _ (List.mem_of_getElem? (i := 11) rfl)) (hw _ (List.mem_of_getElem? (i := 13) rfl)) (by decide) EaA (argsL := [.null]) (rest := []) (rm2_3_4 l Z a0 hw [] aC aS aT aA h0 n0 Z0 FaC FaS FaT FaA naCaS naCaT naCaA naSaT naSaA naTaA) (W := 0) (by decide) (by decide) e301 (g := (mkF m 81 #[.val (.int u0), .val (.int u1), .val (.int (3 : Int32)), .val (.int (4 : Int32)), .val (.ref aA), .val .null, .val (.int (0 : Int32))] [.null, (.ref aA)])) rfl (by rw [hml]; rfl) (lenOf pd_1 rfl) rfl (by show 2 * 0 + _ ≤ _; exact Nat.le_of_eq rfl) (hb hby at_81) (Nat.le_of_ble_eq_true rfl) (Nat.le_of_ble_eq_true rfl)
      obtain ⟨rfl, N305q, e305⟩ := hQ305
      have N305 := Fr.app N301 N305q
      refine OFin.go st305 ?_
      show OFin p e below _ (T305.setTop (mkF m 84 #[.val (.int u0), .val (.int u1), .val (.int (3 : Int32)), .val (.int (4 : Int32)), .val (.ref aA), .val .null, .val (.int (0 : Int32))] [(.int (0 : Int32))]))
      have S306 : ∀ t, Steps p.tables e below (T305.setTop (mkF m 86 #[.val (.int u0), .val (.int u1), .val (.int (3 : Int32)), .val (.int (4 : Int32)), .val (.ref aA), .val .null, .val (.int (0 : Int32))] [(.int (0 : Int32)), (.int (0 : Int32))])) t → Steps p.tables e below (T305.setTop (mkF m 84 #[.val (.int u0), .val (.int u1), .val (.int (3 : Int32)), .val (.int (4 : Int32)), .val (.ref aA), .val .null, .val (.int (0 : Int32))] [(.int (0 : Int32))])) t := by
        intro t k
        show Steps p.tables e below (T305.setTop (mkF m 84 #[.val (.int u0), .val (.int u1), .val (.int (3 : Int32)), .val (.int (4 : Int32)), .val (.ref aA), .val .null, .val (.int (0 : Int32))] [(.int (0 : Int32))])) t
        refine XS.iload X305.here hx rfl (hb hby at_84) rfl ?_
        exact k
      refine OFin.go S306 ?_
      have S307 : ∀ t, Steps p.tables e below (T305.setTop (mkF m 89 #[.val (.int u0), .val (.int u1), .val (.int (3 : Int32)), .val (.int (4 : Int32)), .val (.ref aA), .val .null, .val (.int (0 : Int32))] [])) t → Steps p.tables e below (T305.setTop (mkF m 86 #[.val (.int u0), .val (.int u1), .val (.int (3 : Int32)), .val (.int (4 : Int32)), .val (.ref aA), .val .null, .val (.int (0 : Int32))] [(.int (0 : Int32)), (.int (0 : Int32))])) t := by
        intro t k
        show Steps p.tables e below (T305.setTop (mkF m 86 #[.val (.int u0), .val (.int u1), .val (.int (3 : Int32)), .val (.int (4 : Int32)), .val (.ref aA), .val .null, .val (.int (0 : Int32))] [(.int (0 : Int32)), (.int (0 : Int32))])) t
        refine XS.icmpNo X305.here hx rfl (hb hby at_86) rfl (teq (by decide)).2 ?_
        exact k
      refine OFin.go S307 ?_
      have S308 : ∀ t, Steps p.tables e below (T305.setTop (mkF m 94 #[.val (.int u0), .val (.int u1), .val (.int (3 : Int32)), .val (.int (4 : Int32)), .val (.ref aA), .val .null, .val (.int (0 : Int32))] [(.int (1 : Int32))])) t → Steps p.tables e below (T305.setTop (mkF m 89 #[.val (.int u0), .val (.int u1), .val (.int (3 : Int32)), .val (.int (4 : Int32)), .val (.ref aA), .val .null, .val (.int (0 : Int32))] [])) t := by
        intro t k
        show Steps p.tables e below (T305.setTop (mkF m 89 #[.val (.int u0), .val (.int u1), .val (.int (3 : Int32)), .val (.int (4 : Int32)), .val (.ref aA), .val .null, .val (.int (0 : Int32))] [])) t
        refine XS.iconst X305.here hx rfl (hb hby at_89) ?_
        show Steps p.tables e below (T305.setTop (mkF m 90 #[.val (.int u0), .val (.int u1), .val (.int (3 : Int32)), .val (.int (4 : Int32)), .val (.ref aA), .val .null, .val (.int (0 : Int32))] [(.int (1 : Int32))])) t
        refine XS.goto X305.here hx rfl (pc0 := 90) (pc' := 94) rfl (hb hby at_90) (by decide) (by decide) ?_
        exact k
      refine OFin.go S308 ?_
      exact finZ X305 hx Bd.notSynchronized (t := .boolean) Bd.returns (by simp) (hb hby at_94) rfl (by decide) (by decide) (⟨congrArg (fun z => some (Value.int z)) (rfl : (1 : Int32) = (1 : Int32)), N305⟩)
set_option maxRecDepth 65536 in
set_option maxHeartbeats 40000000 in
theorem comes_1 {Post : Tables → Env → Array Value → State → Outcome → State → Prop} (hpost : ∀ tb e args s v u, (limb_1_1.after args s (.returned v) u = true ∧ limb_1_2.after args s (.returned v) u = true ∧ True) → FrameEnd s (.returned v) u (Jvm.fieldLocs frame_1_writes args s ++ Jvm.arrayLocs frame_1_arrays args s ++ Jvm.staticLocs frame_1_statics s) 0 0 → Post tb e args s (.returned v) u) :
    ArmFor flags0 classFile x code maxLocals ret World_1 tables_1 room_1 Calls_1 rest_1 Pre_1 Post := by
  intro l hfl _ _ p e ha hc hk s m args below hf hA hF happ hP
  obtain ⟨hcalls, hrest, hpre⟩ := hP
  obtain ⟨-, -, -, hnamed, -, -, -, hat⟩ := (Spec.applies_iff hf).mp happ
  obtain ⟨hg, hn⟩ := and_e (Cond.before_iff.mp (show (Jvm.Cond.and given_1 narrow_1).before args s = true from hpre))
  obtain ⟨gg2, gg3⟩ := and_e hg
  obtain ⟨gg4, gg5⟩ := and_e gg3
  obtain ⟨w0, w1, rfl⟩ : ∃ w0 w1 : Value, args = #[w0, w1] := by
    have hs : args.size = 2 := by simpa [Cond.value, given_1] using gg2
    obtain ⟨L⟩ := args
    match L, hs with
    | [w0, w1], _ => exact ⟨w0, w1, rfl⟩
  have hw := fun d (hd : d ∈ tables_1) => atoms_spec (ws := Jvm.Cond.code x code maxLocals ret :: tables_1) hat d (List.mem_cons_of_mem _ hd)
  have hfit : Fit s := fun {y c} hc i hi => by
    obtain ⟨ha, rfl⟩ := Array.getElem?_eq_some_iff.mp hc
    have q := List.all_eq_true.mp ((Array.all_eq_true_iff_forall_mem.mp hF) _ (Array.getElem_mem ha)) i (List.mem_range.mpr hi)
    simpa [Array.getElem?_eq_getElem hi] using q
  obtain ⟨i0, ei0⟩ := is_v gg4
  obtain rfl : w0 = (.int i0) := Option.some.inj ei0
  obtain ⟨i1, ei1⟩ := is_v gg5
  obtain rfl : w1 = (.int i1) := Option.some.inj ei1
  obtain ⟨m0, hn⟩ := and_e hn
  obtain ⟨m1, hn⟩ := and_e hn
  obtain ⟨m2, hn⟩ := and_e hn
  obtain ⟨m3, hn⟩ := and_e hn
  obtain ⟨m4, hn⟩ := and_e hn
  obtain ⟨m5, hn⟩ := and_e hn
  obtain ⟨m6, hn⟩ := and_e hn
  obtain ⟨m7, hn⟩ := and_e hn
  obtain ⟨m8, hn⟩ := and_e hn
  obtain ⟨m9, hn⟩ := and_e hn
  obtain ⟨m10, hn⟩ := and_e hn
  have m11 := hn
  obtain ⟨a_CSIP, ev_CSIP⟩ := exa_v m0
  have E_CSIP := Exa.start ev_CSIP m0
  have S_CSIP := Sta.start ev_CSIP (Or.inr ⟨(hw _ (List.mem_of_getElem? (i := 6) rfl)), (hw _ (List.mem_of_getElem? (i := 7) rfl))⟩)
  obtain ⟨a_AIP, ev_AIP⟩ := exa_v m1
  have E_AIP := Exa.start ev_AIP m1
  have S_AIP := Sta.start ev_AIP (Or.inr ⟨(hw _ (List.mem_of_getElem? (i := 6) rfl)), (hw _ (List.mem_of_getElem? (i := 9) rfl))⟩)
  obtain ⟨a_CITS_SIARD, ev_CITS_SIARD⟩ := exa_v m5
  have E_CITS_SIARD := Exa.start ev_CITS_SIARD m5
  have S_CITS_SIARD := Sta.start ev_CITS_SIARD (Or.inr ⟨(hw _ (List.mem_of_getElem? (i := 6) rfl)), (hw _ (List.mem_of_getElem? (i := 18) rfl))⟩)
  obtain ⟨a_SIP, ev_SIP⟩ := exa_v m6
  have E_SIP := Exa.start ev_SIP m6
  have S_SIP := Sta.start ev_SIP (Or.inr ⟨(hw _ (List.mem_of_getElem? (i := 6) rfl)), (hw _ (List.mem_of_getElem? (i := 20) rfl))⟩)
  have F_CSIP_ordinal := Fld.start ((fld_at ev_CSIP).symm.trans (eqv_i (Term.int_eval _) m2))
  have F_AIP_ordinal := Fld.start ((fld_at ev_AIP).symm.trans (eqv_i (Term.int_eval _) m3))
  have F_CSIP_base := Fld.start ((fld_at ev_CSIP).symm.trans (null_v m4))
  have F_CITS_SIARD_ordinal := Fld.start ((fld_at ev_CITS_SIARD).symm.trans (eqv_i (Term.int_eval _) m7))
  have F_SIP_ordinal := Fld.start ((fld_at ev_SIP).symm.trans (eqv_i (Term.int_eval _) m8))
  have F_CITS_SIARD_base := Fld.start ((fld_at ev_CITS_SIARD).symm.trans (eqv_r ev_SIP m9))
  have F_SIP_base := Fld.start ((fld_at ev_SIP).symm.trans (eqv_r ev_CSIP m10))
  have F_AIP_base := Fld.start ((fld_at ev_AIP).symm.trans (eqv_r ev_CSIP m11))
  obtain ⟨n, o, h1, h2, h3, _, L, rfl, ⟨rfl, N⟩, hq⟩ := rm0 l s _ hw tables_1 i0 i1 a_CSIP a_SIP a_CITS_SIARD a_AIP s.heap s.heap.size (Nat.le_refl _) S_CSIP S_SIP S_CITS_SIARD S_AIP E_CSIP E_SIP E_CITS_SIARD E_AIP F_CSIP_base F_SIP_base F_CITS_SIARD_base F_AIP_base (F_CSIP_ordinal.ne F_SIP_ordinal (by decide)) (F_CSIP_ordinal.ne F_CITS_SIARD_ordinal (by decide)) (F_CSIP_ordinal.ne F_AIP_ordinal (by decide)) (F_SIP_ordinal.ne F_CITS_SIARD_ordinal (by decide)) (F_SIP_ordinal.ne F_AIP_ordinal (by decide)) (F_CITS_SIARD_ordinal.ne F_AIP_ordinal (by decide)) p e ha hc hk s m _ below hf ((Spec.applies_iff_loose hf).mp happ).1 ⟨rfl, State.Warmed39.refl s, rfl⟩ trivial
  refine ⟨n, _, h1, h2, h3, hpost _ _ _ _ _ _ ⟨Cond.after_iff.mpr rfl, Cond.after_iff.mpr (eq_i res_at (Term.int_eval (1)) rfl), trivial⟩ ⟨hq.1, hq.2.1, (hq.2.2.sift fun y hy => Or.inr (N y hy)).mono (by decide) (by decide)⟩⟩
theorem main_1_1 : Claimed_1_1 := comes_1 fun _ _ _ _ _ _ h hF => ⟨h.1, hF⟩
theorem main_1_2 : Claimed_1_2 := comes_1 fun _ _ _ _ _ _ h hF => ⟨h.2.1, hF⟩
end Jvm.Pilot.@@N@@
namespace Jvm.Pilot.@@N@@
open Jvm Jvm.ClassFile Sem Op Lib Jvm.Free Jvm.Stand Jvm.Pilot.@@N@@.Jvm.D
/-! MADE BY PROGRAM (witnessworld.py) out of the Statement's table words and the real class files: 12 classes; the members and pool entries that the words name. The judged class is class 1, her method 2. -/
namespace start1
open Jvm.ClassFile
def u (s : String) : CpInfo := .utf8 (stringToUtf16 s)
/-- a pool by its gaps: so many unusable entries, then the entry; so many at the end -/
def gap : Nat → List CpInfo → List CpInfo
  | 0, r => r
  | n + 1, r => .unusable :: gap n r
def poolList (es : List (Nat × CpInfo)) (last : Nat) : List CpInfo := es.foldr (fun e r => gap e.1 (e.2 :: r)) (gap last [])
def pool (es : List (Nat × CpInfo)) (last : Nat) : Array CpInfo := ⟨poolList es last⟩
def fileOf (pool : Array CpInfo) (this : Nat) (attrs : Array Attribute := #[]) (ms : Array MethodInfo := #[]) (fl : Nat := 33) (sup : Nat := 0) (ifs : Array Nat := #[]) (fds : Array FieldInfo := #[]) : ClassFile where
  minorVersion := 0
  majorVersion := 65
  constantPool := pool
  accessFlags := fl
  thisClass := this
  superClass := sup
  interfaces := ifs
  fields := fds
  methods := ms
  attributes := attrs
def plain (name : String) (sup : Option ClassId) : Class where
  name := name
  kind := .ordinary
  loader := none
  accessFlags := 33
  super := sup
  interfaces := #[]
  cf := none
  fields := #[]
  methods := #[]
  instanceTypes := #[]
  staticTypes := #[]
  resolved := #[]
  callSites := []
  init := .initialized
  statics := none
  mirror := none

def pool0 : Array CpInfo := pool [(5, u "<init>"), (0, u "()V"), (1, .class_ 10), (1, u "java/lang/Object")] 113

def k0m0 : Method := { name := "<init>", desc := "()V", sig := { parameters := [], returnType := none }, accessFlags := 1, code := none }
/-- java/lang/Object -/
def k0 : Class := { plain "java/lang/Object" none with
  accessFlags := 33
  interfaces := #[]
  cf := some (fileOf pool0 8 #[] #[{ accessFlags := 1, nameIndex := 5, descriptorIndex := 6, attributes := #[] }] 33 0 #[] #[])
  fields := #[]
  methods := #[k0m0]
  instanceTypes := #[]
  staticTypes := #[]
  resolved := Array.replicate 124 none
  statics := none }

def pool1 : Array CpInfo := pool [(2, .class_ 4), (1, u "java/lang/Object"), (0, u "<init>"), (0, u "()V"), (0, .fieldref 8 9), (0, .class_ 10), (0, .nameAndType 11 12), (0, u "com/example/stowage/stowage/ip/Profile"), (0, u "CSIP"), (0, u "Lcom/example/stowage/stowage/ip/Profile;"), (0, .fieldref 8 14), (0, .nameAndType 15 12), (0, u "SIP"), (0, .fieldref 8 17), (0, .nameAndType 18 12), (0, u "CITS_SIARD"), (0, .fieldref 8 20), (0, .nameAndType 21 12), (0, u "AIP"), (0, .integer 2147483647), (0, .methodref 24 25), (0, .class_ 26), (0, .nameAndType 27 28), (0, u "com/example/stowage/stowage/ip/ProfileFollowsPinLaw"), (0, u "pick"), (0, u "(I)Lcom/example/stowage/stowage/ip/Profile;"), (0, .methodref 8 30), (0, .nameAndType 31 32), (0, u "follows"), (0, u "(Lcom/example/stowage/stowage/ip/Profile;)Z"), (3, u "law"), (0, u "(II)Z")] 2

def k1m0 : Method := { name := "<init>", desc := "()V", sig := { parameters := [], returnType := none }, accessFlags := 2, code := none }
def k1c1 : Code := { maxStack := 2, maxLocals := 1, code := method_2_code, exceptionTable := #[], attributes := #[] }
def k1m1 : Method := { name := "pick", desc := "(I)Lcom/example/stowage/stowage/ip/Profile;", sig := { parameters := [.int], returnType := some (.object "com/example/stowage/stowage/ip/Profile") }, accessFlags := 10, code := some k1c1 }
def k1c2 : Code := { maxStack := 2, maxLocals := 7, code := code, exceptionTable := #[], attributes := #[] }
def k1m2 : Method := { name := "law", desc := "(II)Z", sig := { parameters := [.int, .int], returnType := some .boolean }, accessFlags := 9, code := some k1c2 }
/-- com/example/stowage/stowage/ip/ProfileFollowsPinLaw -/
def k1 : Class := { plain "com/example/stowage/stowage/ip/ProfileFollowsPinLaw" (some 0) with
  accessFlags := 49
  interfaces := #[]
  cf := some (fileOf pool1 24 #[] #[{ accessFlags := 2, nameIndex := 5, descriptorIndex := 6, attributes := #[] }, { accessFlags := 10, nameIndex := 27, descriptorIndex := 28, attributes := #[] }, { accessFlags := 9, nameIndex := 36, descriptorIndex := 37, attributes := #[] }] 49 2 #[] #[])
  fields := #[]
  methods := #[k1m0, k1m1, k1m2]
  instanceTypes := #[]
  staticTypes := #[]
  resolved := Array.replicate 40 none
  statics := none }

def pool2 : Array CpInfo := pool [(1, .class_ 2), (0, u "java/lang/constant/Constable"), (0, .class_ 4), (0, u "java/lang/Object")] 6

/-- java/lang/constant/Constable -/
def k2 : Class := { plain "java/lang/constant/Constable" (some 0) with
  accessFlags := 1537
  interfaces := #[]
  cf := some (fileOf pool2 1 #[] #[] 1537 3 #[] #[])
  fields := #[]
  methods := #[]
  instanceTypes := #[]
  staticTypes := #[]
  resolved := Array.replicate 11 none
  statics := none }

def pool3 : Array CpInfo := pool [(1, .class_ 2), (0, u "java/lang/Comparable"), (0, .class_ 4), (0, u "java/lang/Object")] 7

/-- java/lang/Comparable -/
def k3 : Class := { plain "java/lang/Comparable" (some 0) with
  accessFlags := 1537
  interfaces := #[]
  cf := some (fileOf pool3 1 #[] #[] 1537 3 #[] #[])
  fields := #[]
  methods := #[]
  instanceTypes := #[]
  staticTypes := #[]
  resolved := Array.replicate 12 none
  statics := none }

def pool4 : Array CpInfo := pool [(1, .class_ 2), (0, u "java/io/Serializable"), (0, .class_ 4), (0, u "java/lang/Object")] 2

/-- java/io/Serializable -/
def k4 : Class := { plain "java/io/Serializable" (some 0) with
  accessFlags := 1537
  interfaces := #[]
  cf := some (fileOf pool4 1 #[] #[] 1537 3 #[] #[])
  fields := #[]
  methods := #[]
  instanceTypes := #[]
  staticTypes := #[]
  resolved := Array.replicate 7 none
  statics := none }

def pool5 : Array CpInfo := pool [(2, .class_ 4), (1, u "java/lang/Enum"), (0, u "name"), (0, u "Ljava/lang/String;"), (2, u "ordinal"), (0, u "I"), (1, .class_ 14), (1, u "java/lang/Object"), (4, u "hash"), (86, .class_ 108), (1, u "java/lang/Enum$EnumDesc"), (2, .class_ 112), (0, u "java/lang/constant/Constable"), (0, .class_ 114), (0, u "java/lang/Comparable"), (0, .class_ 116), (0, u "java/io/Serializable")] 87

/-- java/lang/Enum -/
def k5 : Class := { plain "java/lang/Enum" (some 0) with
  accessFlags := 1057
  interfaces := #[2, 3, 4]
  cf := some (fileOf pool5 2 #[.nestMembers #[106]] #[] 1057 12 #[111, 113, 115] #[{ accessFlags := 18, nameIndex := 5, descriptorIndex := 6, attributes := #[] }, { accessFlags := 18, nameIndex := 9, descriptorIndex := 10, attributes := #[] }, { accessFlags := 2, nameIndex := 19, descriptorIndex := 10, attributes := #[] }])
  fields := #[{ name := "name", type := (.object "java/lang/String"), accessFlags := 18, slot := 0, constantValue := 0 }, { name := "ordinal", type := .int, accessFlags := 18, slot := 1, constantValue := 0 }, { name := "hash", type := .int, accessFlags := 2, slot := 2, constantValue := 0 }]
  methods := #[]
  instanceTypes := #[(.object "java/lang/String"), .int, .int]
  staticTypes := #[]
  resolved := Array.replicate 204 none
  statics := none }

def pool6 : Array CpInfo := pool [(1, .class_ 2), (0, u "com/example/stowage/stowage/ip/Profile"), (2, u "CSIP"), (0, u "Lcom/example/stowage/stowage/ip/Profile;"), (2, u "SIP"), (2, u "CITS_SIARD"), (2, u "AIP"), (2, u "$VALUES"), (0, u "[Lcom/example/stowage/stowage/ip/Profile;"), (6, .class_ 28), (1, u "java/lang/Enum"), (8, u "id"), (0, u "Ljava/lang/String;"), (2, u "url"), (2, u "representationUrl"), (2, u "qualified"), (0, u "Ljava/util/List;"), (2, u "uses"), (0, .fieldref 1 53), (0, .nameAndType 54 6), (0, u "base"), (114, u "follows"), (0, u "(Lcom/example/stowage/stowage/ip/Profile;)Z")] 35

def k6c0 : Code := { maxStack := 2, maxLocals := 3, code := prog_149_method_9_code, exceptionTable := #[], attributes := #[] }
def k6m0 : Method := { name := "follows", desc := "(Lcom/example/stowage/stowage/ip/Profile;)Z", sig := { parameters := [(.object "com/example/stowage/stowage/ip/Profile")], returnType := some .boolean }, accessFlags := 1, code := some k6c0 }
/-- com/example/stowage/stowage/ip/Profile -/
def k6 : Class := { plain "com/example/stowage/stowage/ip/Profile" (some 5) with
  accessFlags := 16433
  interfaces := #[]
  cf := some (fileOf pool6 1 #[] #[{ accessFlags := 1, nameIndex := 169, descriptorIndex := 170, attributes := #[] }] 16433 26 #[] #[{ accessFlags := 16409, nameIndex := 5, descriptorIndex := 6, attributes := #[] }, { accessFlags := 16409, nameIndex := 9, descriptorIndex := 6, attributes := #[] }, { accessFlags := 16409, nameIndex := 12, descriptorIndex := 6, attributes := #[] }, { accessFlags := 16409, nameIndex := 15, descriptorIndex := 6, attributes := #[] }, { accessFlags := 18, nameIndex := 37, descriptorIndex := 38, attributes := #[] }, { accessFlags := 18, nameIndex := 41, descriptorIndex := 38, attributes := #[] }, { accessFlags := 18, nameIndex := 44, descriptorIndex := 38, attributes := #[] }, { accessFlags := 18, nameIndex := 47, descriptorIndex := 48, attributes := #[] }, { accessFlags := 18, nameIndex := 51, descriptorIndex := 48, attributes := #[] }, { accessFlags := 18, nameIndex := 54, descriptorIndex := 6, attributes := #[] }, { accessFlags := 4122, nameIndex := 18, descriptorIndex := 19, attributes := #[] }])
  fields := #[{ name := "CSIP", type := (.object "com/example/stowage/stowage/ip/Profile"), accessFlags := 16409, slot := 0, constantValue := 0 }, { name := "SIP", type := (.object "com/example/stowage/stowage/ip/Profile"), accessFlags := 16409, slot := 1, constantValue := 0 }, { name := "CITS_SIARD", type := (.object "com/example/stowage/stowage/ip/Profile"), accessFlags := 16409, slot := 2, constantValue := 0 }, { name := "AIP", type := (.object "com/example/stowage/stowage/ip/Profile"), accessFlags := 16409, slot := 3, constantValue := 0 }, { name := "id", type := (.object "java/lang/String"), accessFlags := 18, slot := 3, constantValue := 0 }, { name := "url", type := (.object "java/lang/String"), accessFlags := 18, slot := 4, constantValue := 0 }, { name := "representationUrl", type := (.object "java/lang/String"), accessFlags := 18, slot := 5, constantValue := 0 }, { name := "qualified", type := (.object "java/util/List"), accessFlags := 18, slot := 6, constantValue := 0 }, { name := "uses", type := (.object "java/util/List"), accessFlags := 18, slot := 7, constantValue := 0 }, { name := "base", type := (.object "com/example/stowage/stowage/ip/Profile"), accessFlags := 18, slot := 8, constantValue := 0 }, { name := "$VALUES", type := (.array (.object "com/example/stowage/stowage/ip/Profile")), accessFlags := 4122, slot := 4, constantValue := 0 }]
  methods := #[k6m0]
  instanceTypes := #[(.object "java/lang/String"), .int, .int, (.object "java/lang/String"), (.object "java/lang/String"), (.object "java/lang/String"), (.object "java/util/List"), (.object "java/util/List"), (.object "com/example/stowage/stowage/ip/Profile")]
  staticTypes := #[(.object "com/example/stowage/stowage/ip/Profile"), (.object "com/example/stowage/stowage/ip/Profile"), (.object "com/example/stowage/stowage/ip/Profile"), (.object "com/example/stowage/stowage/ip/Profile"), (.array (.object "com/example/stowage/stowage/ip/Profile"))]
  resolved := Array.replicate 206 none
  statics := some 0 }

def pool7 : Array CpInfo := pool [(1, u "java/lang/Cloneable"), (0, .class_ 1), (0, u "java/lang/Object"), (0, .class_ 3)] 3

/-- java/lang/Cloneable -/
def k7 : Class := { plain "java/lang/Cloneable" (some 0) with
  accessFlags := 1537
  interfaces := #[]
  cf := some (fileOf pool7 2 #[] #[] 1537 4 #[] #[])
  fields := #[]
  methods := #[]
  instanceTypes := #[]
  staticTypes := #[]
  resolved := Array.replicate 8 none
  statics := none }

/-- the primitive byte -/
def k8 : Class := { plain "byte" none with kind := .primitive 'B', accessFlags := 0x411 }
/-- [B -/
def k9 : Class := { plain "[B" (some 0) with kind := .array 8 .byte, interfaces := #[7, 4], accessFlags := 1041 }

/-- the primitive int -/
def k10 : Class := { plain "int" none with kind := .primitive 'I', accessFlags := 0x411 }
/-- [I -/
def k11 : Class := { plain "[I" (some 0) with kind := .array 10 .int, interfaces := #[7, 4], accessFlags := 1041 }

def heap : Heap := #[{ cls := 6, slots := #[.ref 1, .ref 2, .ref 3, .ref 4, .null], vm := .statics 6 },
  { cls := 6, slots := #[.null, .int 0, .int 0, .null, .null, .null, .null, .null, .null], vm := .none },
  { cls := 6, slots := #[.null, .int 1, .int 0, .null, .null, .null, .null, .null, .ref 1], vm := .none },
  { cls := 6, slots := #[.null, .int 2, .int 0, .null, .null, .null, .null, .null, .ref 2], vm := .none },
  { cls := 6, slots := #[.null, .int 3, .int 0, .null, .null, .null, .null, .null, .ref 1], vm := .none }]
def classes : Array Class := #[k0, k1, k2, k3, k4, k5, k6, k7, k8, k9, k10, k11]
def interned : List (Array UInt16 × Addr) := []
def slotsUsed : Nat := 41
def theMethod : MethodId := ⟨1, 2⟩
def args0 : Array Value := #[.int 1, .int 2]
def aboutOver (below : List Frame) : State where
  vm := { classes := classes, interned := interned.toArray }
  heap := heap
  slotsUsed := slotsUsed
  threads := #[{ frames := .invoking theMethod args0 :: below }]
def below0 : List Frame := [.native { method := ⟨0, 0⟩, args := #[] }]
def about1 : State := aboutOver below0
def p0 : Program := .bare "" "" ""
def e0 : Env := launch0.env 0 0 0
theorem w_frames : about1.frames = Frame.invoking theMethod args0 :: below0 := rfl
set_option maxRecDepth 65536 in
theorem w_args : argsFit about1.vm theMethod args0 = true := by decide +kernel
set_option maxRecDepth 65536 in
theorem w_heap : heapFits about1 = true := by decide +kernel
set_option maxRecDepth 65536 in
theorem w_runnable : about1.curStatus? = some .runnable := by decide +kernel
set_option maxRecDepth 65536 in
theorem w_alone : about1.alone = true := by decide +kernel
set_option maxRecDepth 65536 in
theorem w_named : about1.methodNamed? x = some theMethod := by decide +kernel
set_option maxRecDepth 65536 in
theorem w_hears : about1.hears theMethod below0 = true := by decide +kernel
set_option maxRecDepth 65536 in
theorem w_ripe : about1.ripe theMethod args0 below0 = true := by decide +kernel
theorem w_running : about1.status = .running := rfl
set_option maxRecDepth 65536 in
theorem w_room : about1.hasRoom e0.platform room_1 = true :=
  launch0.hasRoom_least _ room_1 (by decide +kernel) (by decide +kernel) (by decide +kernel) (by decide +kernel) (by decide +kernel) (by decide +kernel)
theorem allAtoms_all (ts : List Jvm.Cond) (a : Array Jvm.Value) (st : Jvm.State) : (allAtoms ts).before a st = ts.all (fun c => c.before a st) := by
  induction ts with
  | nil => rfl
  | cons c t ih =>
    show (Jvm.Cond.and c (allAtoms t)).before a st = _
    rw [Jvm.Cond.before_and, ih, List.all_cons]
def words1 : List Jvm.Cond := Jvm.Cond.code x code maxLocals ret :: tables_1
/-- a 'code' word, met by the world's own term for the bytes: nothing is compared byte by byte -/
theorem code_word {y : MethodName} {bytes : ByteArray} {mx : Nat} {rt : Option FieldType} {a : Array Value} {s : State} {m : MethodId} {meth : Method} {c : Code} (h1 : s.methodNamed? y = some m) (h2 : s.vm.method? m = some meth) (h3 : meth.code = some c) (h4 : c.code = bytes)
    (h5 : (c.maxLocals == mx && c.exceptionTable.isEmpty && decide (c.maxStack ≤ mostOperands) && decide (meth.sig.returnType = rt) && !meth.locks && decide (parseMethodDescriptor y.desc = some meth.sig)) = true) : (Jvm.Cond.code y bytes mx rt).before a s = true := by
  simp only [Bool.and_eq_true, beq_iff_eq, Bool.not_eq_true', decide_eq_true_eq] at h5
  obtain ⟨⟨⟨⟨⟨g1, g2⟩, g3⟩, g4⟩, g5⟩, g6⟩ := h5
  simp [Cond.before, Cond.holds, Cond.value, h1, h2, h3, h4, g1, g2, g3, g4, g5, g6]
def isCode : Jvm.Cond → Bool
  | .code _ _ _ _ => true
  | _ => false
theorem all_split {L : List Jvm.Cond} {P : Jvm.Cond → Bool} (h1 : L.all (fun c => isCode c || P c) = true) (h2 : ∀ c ∈ L.filter isCode, P c = true) : L.all P = true := by
  refine List.all_eq_true.mpr fun c hc => ?_
  have h := List.all_eq_true.mp h1 c hc
  rcases Bool.eq_false_or_eq_true (isCode c) with hi | hi
  · exact h2 c (List.mem_filter.mpr ⟨hc, hi⟩)
  · simpa [hi] using h
set_option maxRecDepth 65536 in
theorem w_c0 : (Jvm.Cond.code x code maxLocals ret).before args0 about1 = true := code_word (m := ⟨1, 2⟩) (meth := k1m2) (c := k1c2) (by decide +kernel) rfl rfl rfl (by decide +kernel)
set_option maxRecDepth 65536 in
theorem w_c1 : (Jvm.Cond.code ({ cls := "com/example/stowage/stowage/ip/ProfileFollowsPinLaw", name := "pick", desc := "(I)Lcom/example/stowage/stowage/ip/Profile;" } : Jvm.MethodName) method_2_code (1 : Nat) (Option.some (Jvm.ClassFile.FieldType.object "com/example/stowage/stowage/ip/Profile"))).before args0 about1 = true := code_word (m := ⟨1, 1⟩) (meth := k1m1) (c := k1c1) (by decide +kernel) rfl rfl rfl (by decide +kernel)
set_option maxRecDepth 65536 in
theorem w_c2 : (Jvm.Cond.code ({ cls := "com/example/stowage/stowage/ip/Profile", name := "follows", desc := "(Lcom/example/stowage/stowage/ip/Profile;)Z" } : Jvm.MethodName) prog_149_method_9_code (3 : Nat) (Option.some Jvm.ClassFile.FieldType.boolean)).before args0 about1 = true := code_word (m := ⟨6, 0⟩) (meth := k6m0) (c := k6c0) (by decide +kernel) rfl rfl rfl (by decide +kernel)
def codes1 : List Jvm.Cond := [Jvm.Cond.code x code maxLocals ret, Jvm.Cond.code ({ cls := "com/example/stowage/stowage/ip/ProfileFollowsPinLaw", name := "pick", desc := "(I)Lcom/example/stowage/stowage/ip/Profile;" } : Jvm.MethodName) method_2_code (1 : Nat) (Option.some (Jvm.ClassFile.FieldType.object "com/example/stowage/stowage/ip/Profile")), Jvm.Cond.code ({ cls := "com/example/stowage/stowage/ip/Profile", name := "follows", desc := "(Lcom/example/stowage/stowage/ip/Profile;)Z" } : Jvm.MethodName) prog_149_method_9_code (3 : Nat) (Option.some Jvm.ClassFile.FieldType.boolean)]
set_option maxRecDepth 65536 in
theorem codes_eq : words1.filter isCode = codes1 := rfl
theorem w_codes : ∀ c ∈ words1.filter isCode, c.before args0 about1 = true := by
  rw [codes_eq]
  intro c hc
  simp only [codes1, List.mem_cons, List.not_mem_nil, or_false] at hc
  rcases hc with rfl | rfl | rfl
  · exact w_c0
  · exact w_c1
  · exact w_c2
set_option maxRecDepth 65536 in
theorem w_t1 : words1.all (fun c => isCode c || c.before args0 about1) = true := by decide +kernel
theorem w_tables : (allAtoms (Jvm.Cond.code x code maxLocals ret :: tables_1)).before args0 about1 = true := by
  rw [allAtoms_all]
  show words1.all (fun c => c.before args0 about1) = true
  refine all_split ?_ w_codes
  rw [w_t1]
set_option maxRecDepth 65536 in
theorem w_case : (Jvm.Cond.and given_1 narrow_1).before args0 about1 = true := by decide +kernel
theorem w_applies : (headSpec (Jvm.Cond.code x code maxLocals ret :: tables_1) room_1).applies x e0.platform about1 = true :=
  (Spec.applies_iff w_frames).mpr ⟨w_running, w_runnable, w_alone, w_named, w_hears, w_ripe, w_room, w_tables⟩
theorem atStart : AtStart classFile x code maxLocals ret World_1 tables_1 room_1 Calls_1 rest_1 Pre_1 launch0 p0 e0 about1 theMethod args0 below0 :=
  ⟨lists_1, trivial, launch0.admits_env _ _ _, launch0.least_env, fairChoices_fair.cas, fairChoices_fair.clock, w_frames, w_args, w_heap, w_applies, trivial, trivial, w_case⟩
end start1
theorem witness_1 : WitnessClaimed_1 := ⟨start1.p0, start1.e0, start1.about1, start1.theMethod, start1.args0, start1.below0, start1.atStart⟩
end Jvm.Pilot.@@N@@
