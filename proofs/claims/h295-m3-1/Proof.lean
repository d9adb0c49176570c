import JvmDerived
import JvmDerived.Pilot.@@N@@Statement
import JvmDerived.Pilot.@@N@@Code
set_option linter.unusedVariables false
set_option linter.unusedSimpArgs false
namespace Jvm.Pilot.@@N@@
open Jvm Jvm.ClassFile Sem Op Lib Jvm.Free Jvm.Stand Jvm.LawKit Jvm.RoadKit Bundle Jvm.Pilot.@@N@@.Jvm.D
/-! the walk in continuation style: 'Fin': from F on the run comes to an end that answers Q -/
section Own
variable {p : Program} {l : Launch} {e : Env} {R : Room} {s : State} {m : MethodId} {args : Array Value} {below : List Frame} {meth : Method} {c : Code} {T : State} {locs : List Loc} {cells slots : Nat}
def OFin (p : Program) (e : Env) (below : List Frame) (Q : Outcome → State → Prop) (F : State) : Prop := ∃ s₂ o, Steps p.tables e below F s₂ ∧ s₂.status = .running ∧ Ended s₂ below o ∧ Q o s₂
def ORet (Q : Option Value → Heap → List Loc → Prop) (s : State) (C S : Nat) (o : Outcome) (U' : State) : Prop := ∃ v L, o = .returned v ∧ Q v U'.heap L ∧ FrameEnd s o U' L C S
theorem OFin.go {Q : Outcome → State → Prop} {F F' : State} (st : ∀ t, Steps p.tables e below F' t → Steps p.tables e below F t) (h : OFin p e below Q F') : OFin p e below Q F := by
  obtain ⟨s2, o, h1, r⟩ := h; exact ⟨s2, o, st _ h1, r⟩
theorem OFin.tr {Q : Outcome → State → Prop} {F F' : State} (st : Steps p.tables e below F F') (h : OFin p e below Q F') : OFin p e below Q F := by
  obtain ⟨s2, o, h1, r⟩ := h; exact ⟨s2, o, st.trans h1, r⟩
variable {Q : Option Value → Heap → List Loc → Prop} {C S : Nat}
theorem finZ (X : Stand p l e R s m args below meth c T locs cells slots) (hx : p.tables.exec = Jvm.exec) (hlocks : meth.locks = false) {t : FieldType} (hret : meth.sig.returnType = some t) (ht : t = .boolean ∨ t = .byte ∨ t = .char ∨ t = .short) {pc : Nat} (hd : decode c.code pc = .ok (.ireturn, 1)) {z z' : Int32} (hz : nar t z = z') (hc : cells ≤ C) (hs : slots ≤ S) {Ls : Array Slot} {rest : List Value} (hQ : Q (some (.int z')) T.heap locs) : OFin p e below (ORet Q s C S) (T.setTop (mkF m pc Ls (.int z :: rest))) := by
  subst hz
  obtain ⟨fs, hr, hrun, hended, hW, hsame⟩ := X.leave (v := some (.int (nar t z))) (fun h => by rw [hret] at h; cases h)
  exact ⟨_, _, retN X hx (t := t) hret ht hd hr, hrun, hended, _, _, rfl, hQ, ⟨_, rfl⟩, hW, hsame.mono hc hs⟩
theorem finI (X : Stand p l e R s m args below meth c T locs cells slots) (hx : p.tables.exec = Jvm.exec) (hlocks : meth.locks = false) (hret : meth.sig.returnType = some .int) {pc : Nat} (hd : decode c.code pc = .ok (.ireturn, 1)) {z : Int32} (hc : cells ≤ C) (hs : slots ≤ S) {Ls : Array Slot} {rest : List Value} (hQ : Q (some (.int z)) T.heap locs) : OFin p e below (ORet Q s C S) (T.setTop (mkF m pc Ls (.int z :: rest))) := by
  obtain ⟨fs, hr, hrun, hended, hW, hsame⟩ := X.leave (v := some (.int z)) (fun h => by rw [hret] at h; cases h)
  exact ⟨_, _, retOut X hx hret rfl (Or.inl ⟨rfl, Or.inl rfl, _, rfl⟩) hd hr, hrun, hended, _, _, rfl, hQ, ⟨_, rfl⟩, hW, hsame.mono hc hs⟩
theorem finJ (X : Stand p l e R s m args below meth c T locs cells slots) (hx : p.tables.exec = Jvm.exec) (hlocks : meth.locks = false) (hret : meth.sig.returnType = some .long) {pc : Nat} (hd : decode c.code pc = .ok (.lreturn, 1)) {z : Int64} (hc : cells ≤ C) (hs : slots ≤ S) {Ls : Array Slot} {rest : List Value} (hQ : Q (some (.long z)) T.heap locs) : OFin p e below (ORet Q s C S) (T.setTop (mkF m pc Ls (.long z :: rest))) := by
  obtain ⟨fs, hr, hrun, hended, hW, hsame⟩ := X.leave (v := some (.long z)) (fun h => by rw [hret] at h; cases h)
  exact ⟨_, _, retOut X hx hret rfl (Or.inr (Or.inl ⟨rfl, rfl, _, rfl⟩)) hd hr, hrun, hended, _, _, rfl, hQ, ⟨_, rfl⟩, hW, hsame.mono hc hs⟩
theorem finA (X : Stand p l e R s m args below meth c T locs cells slots) (hx : p.tables.exec = Jvm.exec) (hlocks : meth.locks = false) {w : Value} (hw : w.isRef = true) {t : FieldType} (hret : meth.sig.returnType = some t) (ht : t.isReference = true) {pc : Nat} (hd : decode c.code pc = .ok (.areturn, 1)) (hc : cells ≤ C) (hs : slots ≤ S) {Ls : Array Slot} {rest : List Value} (hQ : Q (some w) T.heap locs) : OFin p e below (ORet Q s C S) (T.setTop (mkF m pc Ls (w :: rest))) := by
  obtain ⟨fs, hr, hrun, hended, hW, hsame⟩ := X.leave (v := some w) (fun h => by rw [hret] at h; cases h)
  refine ⟨_, _, retOut X hx hret ?_ (Or.inr (Or.inr (Or.inr (Or.inr ⟨rfl, ht, hw⟩)))) hd hr, hrun, hended, _, _, rfl, hQ, ⟨_, rfl⟩, hW, hsame.mono hc hs⟩
  cases w <;> first | (simp [Value.isRef] at hw; done) | (cases t <;> first | rfl | (simp [FieldType.isReference] at ht; done))
theorem finV (X : Stand p l e R s m args below meth c T locs cells slots) (hx : p.tables.exec = Jvm.exec) (hlocks : meth.locks = false) (hret : meth.sig.returnType = none) {pc : Nat} (hd : decode c.code pc = .ok (.return_, 1)) (hc : cells ≤ C) (hs : slots ≤ S) {Ls : Array Slot} (hQ : Q none T.heap locs) : OFin p e below (ORet Q s C S) (T.setTop (mkF m pc Ls [])) := by
  obtain ⟨fs, hr, hrun, hended, hW, hsame⟩ := X.leave (v := none) (fun _ => rfl)
  exact ⟨_, _, X.returnOut hx hret hd hr, hrun, hended, _, _, rfl, hQ, ⟨_, rfl⟩, hW, hsame.mono hc hs⟩
end Own
/-- a boolean as the int that bears it -/
def bi (P : Prop) [Decidable P] : Int32 := if P then 1 else 0
theorem bi_t {P : Prop} [Decidable P] (h : P) : bi P = 1 := if_pos h
theorem bi_f {P : Prop} [Decidable P] (h : ¬ P) : bi P = 0 := if_neg h
theorem nar_bi (P : Prop) [Decidable P] : nar .boolean (bi P) = bi P := by unfold bi; split <;> rfl
theorem bi_iff {P Q : Prop} [Decidable P] [Decidable Q] : bi P = bi Q ↔ (P ↔ Q) := by
  unfold bi; by_cases h : P <;> by_cases k : Q <;> simp [h, k]
theorem bi0 {P : Prop} [Decidable P] : (bi P = 0) ↔ ¬ P := by unfold bi; by_cases h : P <;> simp [h]
theorem bi_ne_t {P : Prop} [Decidable P] (h : P) : ifCond.holds .ne (bi P) = true := by rw [bi_t h]; rfl
theorem bi_ne_f {P : Prop} [Decidable P] (h : ¬ P) : ifCond.holds .ne (bi P) = false := by rw [bi_f h]; rfl
theorem bi_eq_t {P : Prop} [Decidable P] (h : ¬ P) : ifCond.holds .eq (bi P) = true := by rw [bi_f h]; rfl
theorem bi_eq_f {P : Prop} [Decidable P] (h : P) : ifCond.holds .eq (bi P) = false := by rw [bi_t h]; rfl
theorem lc_lt_t {x y : Int64} (h : x < y) : ifCond.holds .lt (lcmpW x y) = true := (if0 _ _).trans (tlt ((lw_lt x y).mpr h)).1
theorem lc_lt_f {x y : Int64} (h : ¬ x < y) : ifCond.holds .lt (lcmpW x y) = false := (if0 _ _).trans (flt fun q => h ((lw_lt x y).mp q)).1
theorem lc_ge_t {x y : Int64} (h : ¬ x < y) : ifCond.holds .ge (lcmpW x y) = true := (if0 _ _).trans (flt fun q => h ((lw_lt x y).mp q)).2.1
theorem lc_ge_f {x y : Int64} (h : x < y) : ifCond.holds .ge (lcmpW x y) = false := (if0 _ _).trans (tlt ((lw_lt x y).mpr h)).2.1
theorem lc_gt_t {x y : Int64} (h : y < x) : ifCond.holds .gt (lcmpW x y) = true := (if0 _ _).trans (tlt ((lw_gt x y).mpr h)).2.2.1
theorem lc_gt_f {x y : Int64} (h : ¬ y < x) : ifCond.holds .gt (lcmpW x y) = false := (if0 _ _).trans (flt fun q => h ((lw_gt x y).mp q)).2.2.1
theorem lc_le_t {x y : Int64} (h : ¬ y < x) : ifCond.holds .le (lcmpW x y) = true := (if0 _ _).trans (flt fun q => h ((lw_gt x y).mp q)).2.2.2
theorem lc_le_f {x y : Int64} (h : y < x) : ifCond.holds .le (lcmpW x y) = false := (if0 _ _).trans (tlt ((lw_gt x y).mpr h)).2.2.2
theorem lc_eq_t {x y : Int64} (h : x = y) : ifCond.holds .eq (lcmpW x y) = true := (if0 _ _).trans (teq ((lw_eq x y).mpr h)).1
theorem lc_eq_f {x y : Int64} (h : ¬ x = y) : ifCond.holds .eq (lcmpW x y) = false := (if0 _ _).trans (feq fun q => h ((lw_eq x y).mp q)).1
theorem lc_ne_t {x y : Int64} (h : ¬ x = y) : ifCond.holds .ne (lcmpW x y) = true := (if0 _ _).trans (feq fun q => h ((lw_eq x y).mp q)).2
theorem lc_ne_f {x y : Int64} (h : x = y) : ifCond.holds .ne (lcmpW x y) = false := (if0 _ _).trans (teq ((lw_eq x y).mpr h)).2
/-! arrays by their places -/
def upd {α : Type} (f : Nat → α) (i : Nat) (v : α) : Nat → α := fun j => if j = i then v else f j
theorem upd_hit {α : Type} (f : Nat → α) (i : Nat) (v : α) : upd f i v i = v := if_pos rfl
theorem upd_miss {α : Type} {f : Nat → α} {i j : Nat} {v : α} (h : j ≠ i) : upd f i v j = f j := if_neg h
def Ara (Z : State) (h : Heap) (a : Addr) (ty : FieldType) (n : Nat) (f : Nat → Value) : Prop := ∃ c : Cell, Arr Z h a c ty ∧ c.slots.size = n ∧ n < 2 ^ 31 ∧ ∀ i, i < n → c.slots[i]? = some (f i)
section Ara
variable {Z : State} {h h' : Heap} {a b : Addr} {ty : FieldType} {n : Nat} {f f' : Nat → Value} {sl : Nat} {v : Value} {ws : List Addr}
theorem Ara.lt (F : Ara Z h a ty n f) : a < h.size := by obtain ⟨c, A, -⟩ := F; exact A.lt
theorem Ara.ext (F : Ara Z h a ty n f) (E : Ext h h') : Ara Z h' a ty n f := by obtain ⟨c, A, r⟩ := F; exact ⟨c, A.ext E, r⟩
theorem Ara.other (F : Ara Z h b ty n f) (W : Wr h h' a sl v) (q : b ≠ a) : Ara Z h' b ty n f := by obtain ⟨c, A, r⟩ := F; exact ⟨c, A.other W q, r⟩
theorem Ara.keep (F : Ara Z h a ty n f) (K : Keep h h' ws) (q : a ∉ ws) : Ara Z h' a ty n f := by obtain ⟨c, A, r⟩ := F; exact ⟨c, ⟨K.2.1 a c A.1 q, A.2⟩, r⟩
theorem Ara.set (F : Ara Z h a ty n f) (W : Wr h h' a sl v) : Ara Z h' a ty n (upd f sl v) := by
  obtain ⟨c, A, r1, r2, r3⟩ := F
  refine ⟨_, A.same W, by rw [sz_set]; exact r1, r2, fun i hi => ?_⟩
  by_cases q : i = sl
  · subst q; rw [upd_hit]; simp [Cell.setSlot, r1, hi]
  · rw [upd_miss q]; simp only [Cell.setSlot]; rw [Array.getElem?_setIfInBounds_ne (fun z => q z.symm)]; exact r3 i hi
theorem Ara.new {k : ClassId} {z : Int32} (A : Arr Z h a (newA k ty z) ty) (hn : z.toNatClampNeg = n) : Ara Z h a ty n (fun _ => defaultValue ty) := by
  refine ⟨_, A, by rw [sz_new]; exact hn, ?_, fun i hi => ?_⟩
  · rw [← hn]; have := z.toInt_lt; unfold Int32.toNatClampNeg; omega
  · rw [← hn] at hi; simp [newA, hi]
theorem Ara.congr (F : Ara Z h a ty n f) (q : ∀ i, i < n → f i = f' i) : Ara Z h a ty n f' := by obtain ⟨c, A, r1, r2, r3⟩ := F; exact ⟨c, A, r1, r2, fun i hi => by rw [← q i hi]; exact r3 i hi⟩
variable {p : Program} {l : Launch} {e : Env} {R : Room} {s : State} {m : MethodId} {args : Array Value} {below : List Frame} {meth : Method} {c : Code} {T : State} {locs : List Loc} {cells slots : Nat} {j : Int32} {i : Nat} {rest : List Value} {g : JFrame} {t : State} {x : Value}
theorem hin_of {cl : Cell} (S : cl.slots.size = n) (hj0 : ¬ j < 0) (hj : j.toNatClampNeg = i) (hi : i < n) : ¬ (j < 0 ∨ cl.slots.size ≤ j.toNatClampNeg) := by rw [S, hj]; exact fun q => q.elim hj0 (Nat.not_le.mpr hi)
theorem rdB (X : Stand p l e R s m args below meth c T locs cells slots) (hx : p.tables.exec = Jvm.exec) (hZ : Z.Warmed39 s.vm) (eT : T.heap = h) (F : Ara Z h a .byte n f) (hj0 : ¬ j < 0) (hj : j.toNatClampNeg = i) (hi : i < n) (hv : f i = x) (hg : g.method = m) (hs : g.stack = .int j :: .ref a :: rest) (hd : decode c.code g.pc = .ok (.baload, 1))
    (k : Steps p.tables e below (T.setTop { g with pc := g.pc + 1, stack := x :: rest }) t) : Steps p.tables e below (T.setTop g) t := by
  obtain ⟨cl, A, r1, r2, r3⟩ := F
  exact X.baloadBytes hx (by rw [eT]; exact A.1) (State.isArrayOf_alike hZ.alike A.2.1) A.2.2 (hin_of r1 hj0 hj hi) (by rw [hj, r3 i hi, hv]) hg hs hd _ k
theorem rdI (X : Stand p l e R s m args below meth c T locs cells slots) (hx : p.tables.exec = Jvm.exec) (hZ : Z.Warmed39 s.vm) (eT : T.heap = h) (F : Ara Z h a .int n f) (hj0 : ¬ j < 0) (hj : j.toNatClampNeg = i) (hi : i < n) (hv : f i = x) (hg : g.method = m) (hs : g.stack = .int j :: .ref a :: rest) (hd : decode c.code g.pc = .ok (.iaload, 1))
    (k : Steps p.tables e below (T.setTop { g with pc := g.pc + 1, stack := x :: rest }) t) : Steps p.tables e below (T.setTop g) t := by
  obtain ⟨cl, A, r1, r2, r3⟩ := F
  exact X.iaload hx (by rw [eT]; exact A.1) (State.isArrayOf_alike hZ.alike A.2.1) A.2.2 (hin_of r1 hj0 hj hi) (by rw [hj, r3 i hi, hv]) hg hs hd _ k
theorem rdJ (X : Stand p l e R s m args below meth c T locs cells slots) (hx : p.tables.exec = Jvm.exec) (hZ : Z.Warmed39 s.vm) (eT : T.heap = h) (F : Ara Z h a .long n f) (hj0 : ¬ j < 0) (hj : j.toNatClampNeg = i) (hi : i < n) (hv : f i = x) (hg : g.method = m) (hs : g.stack = .int j :: .ref a :: rest) (hd : decode c.code g.pc = .ok (.laload, 1))
    (k : Steps p.tables e below (T.setTop { g with pc := g.pc + 1, stack := x :: rest }) t) : Steps p.tables e below (T.setTop g) t := by
  obtain ⟨cl, A, r1, r2, r3⟩ := F
  exact X.laload hx (by rw [eT]; exact A.1) (State.isArrayOf_alike hZ.alike A.2.1) A.2.2 (hin_of r1 hj0 hj hi) (by rw [hj, r3 i hi, hv]) hg hs hd _ k
theorem rdR (X : Stand p l e R s m args below meth c T locs cells slots) (hx : p.tables.exec = Jvm.exec) (hZ : Z.Warmed39 s.vm) (eT : T.heap = h) (F : Ara Z h a ty n f) (hty : ty.isReference = true) (hj0 : ¬ j < 0) (hj : j.toNatClampNeg = i) (hi : i < n) (hv : f i = x) (hg : g.method = m) (hs : g.stack = .int j :: .ref a :: rest) (hd : decode c.code g.pc = .ok (.aaload, 1))
    (k : Steps p.tables e below (T.setTop { g with pc := g.pc + 1, stack := x :: rest }) t) : Steps p.tables e below (T.setTop g) t := by
  obtain ⟨cl, A, r1, r2, r3⟩ := F
  exact X.aaload hx (by rw [eT]; exact A.1) (State.isArrayOf_alike hZ.alike A.2.1) hty A.2.2 (hin_of r1 hj0 hj hi) (by rw [hj, r3 i hi, hv]) hg hs hd _ k
theorem alen (X : Stand p l e R s m args below meth c T locs cells slots) (hx : p.tables.exec = Jvm.exec) (hZ : Z.Warmed39 s.vm) (eT : T.heap = h) (F : Ara Z h a ty n f) {z : Int32} (hz : n.toInt32 = z) (hg : g.method = m) (hs : g.stack = .ref a :: rest) (hd : decode c.code g.pc = .ok (.arraylength, 1))
    (k : Steps p.tables e below (T.setTop { g with pc := g.pc + 1, stack := .int z :: rest }) t) : Steps p.tables e below (T.setTop g) t := by
  obtain ⟨cl, A, r1, r2, r3⟩ := F
  refine X.arraylength hx (by rw [eT]; exact A.1) (State.isArrayOf_alike hZ.alike A.2.1) hg hs hd _ ?_
  rw [r1, hz]; exact k
theorem wrB (X : Stand p l e R s m args below meth c T locs cells slots) (hx : p.tables.exec = Jvm.exec) (hZ : Z.Warmed39 s.vm) (eT : T.heap = h) (F : Ara Z h a .byte n f) {y : Int32} (hj0 : ¬ j < 0) (hj : j.toNatClampNeg = i) (hi : i < n) {y' : Int32} (hy : nar .byte y = y') (hg : g.method = m) (hs : g.stack = .int y :: .int j :: .ref a :: rest) (hd : decode c.code g.pc = .ok (.bastore, 1)) :
    ∃ T' h', Stand p l e R s m args below meth c T' (locs ++ [⟨a, i⟩]) cells slots ∧ T'.heap = h' ∧ Wr h h' a i (.int y') ∧ ∀ target, Steps p.tables e below (T'.setTop { g with pc := g.pc + 1, stack := rest }) target → Steps p.tables e below (T.setTop g) target := by
  subst hj hy
  obtain ⟨cl, A, r1, r2, r3⟩ := F
  exact stB X hx hZ eT A (hin_of r1 hj0 rfl hi) hg hs hd
theorem wrI (X : Stand p l e R s m args below meth c T locs cells slots) (hx : p.tables.exec = Jvm.exec) (hZ : Z.Warmed39 s.vm) (eT : T.heap = h) (F : Ara Z h a .int n f) {y : Int32} (hj0 : ¬ j < 0) (hj : j.toNatClampNeg = i) (hi : i < n) (hg : g.method = m) (hs : g.stack = .int y :: .int j :: .ref a :: rest) (hd : decode c.code g.pc = .ok (.iastore, 1)) :
    ∃ T' h', Stand p l e R s m args below meth c T' (locs ++ [⟨a, i⟩]) cells slots ∧ T'.heap = h' ∧ Wr h h' a i (.int y) ∧ ∀ target, Steps p.tables e below (T'.setTop { g with pc := g.pc + 1, stack := rest }) target → Steps p.tables e below (T.setTop g) target := by
  subst hj
  obtain ⟨cl, A, r1, r2, r3⟩ := F
  exact stI X hx hZ eT A (hin_of r1 hj0 rfl hi) hg hs hd
theorem wrJ (X : Stand p l e R s m args below meth c T locs cells slots) (hx : p.tables.exec = Jvm.exec) (hZ : Z.Warmed39 s.vm) (eT : T.heap = h) (F : Ara Z h a .long n f) {y : Int64} (hj0 : ¬ j < 0) (hj : j.toNatClampNeg = i) (hi : i < n) (hg : g.method = m) (hs : g.stack = .long y :: .int j :: .ref a :: rest) (hd : decode c.code g.pc = .ok (.lastore, 1)) :
    ∃ T' h', Stand p l e R s m args below meth c T' (locs ++ [⟨a, i⟩]) cells slots ∧ T'.heap = h' ∧ Wr h h' a i (.long y) ∧ ∀ target, Steps p.tables e below (T'.setTop { g with pc := g.pc + 1, stack := rest }) target → Steps p.tables e below (T.setTop g) target := by
  subst hj
  obtain ⟨cl, A, r1, r2, r3⟩ := F
  exact stJ X hx hZ eT A (hin_of r1 hj0 rfl hi) hg hs hd
end Ara
theorem wr_le {h h' : Heap} {a : Addr} {sl : Nat} {v : Value} (W : Wr h h' a sl v) : h.size ≤ h'.size := Nat.le_of_eq W.size.symm
theorem up_lt {k a b : Nat} (h : a < k) (g : b = k) : a ≠ b := by omega
theorem nar_b (y : Int32) : nar .byte y.toInt8.toInt32 = y.toInt8.toInt32 := by show y.toInt8.toInt32.toInt8.toInt32 = _; rw [Int8.toInt8_toInt32]
theorem Sta_keep {Z : State} {h h' : Heap} {C n d : String} {v : Value} {ws : List Addr} {k : Nat} (F : Sta Z h C n d v) (K : Keep h h' ws) (q : ∀ x ∈ ws, Z.heap.size ≤ x) (hst : ∀ cf kk i f st, Z.fieldFound? C n d = some (cf, kk, i, f) → kk.statics = some st → st < Z.heap.size) : Sta Z h' C n d v := by
  obtain ⟨cf, i, kk, f, st, cell, h1, h2, h3, h4, h5, r⟩ := F
  exact ⟨cf, i, kk, f, st, cell, h1, h2, h3, h4, K.2.1 _ _ h5 (fun z => absurd (hst _ _ _ _ _ h1 h4) (Nat.not_lt.mpr (q _ z))), r⟩
theorem eqv_r {Z : State} {args : Array Value} {X F : Term} {idx : List Nat} {y : Addr} (hF : F.eval args Z none idx Z = some (.ref y)) (h : (Cond.eq X F).value args Z none Z idx = some true) : X.eval args Z none idx Z = some (.ref y) := by
  cases hx : X.eval args Z none idx Z with
  | none => simp [Cond.value, hF, hx] at h
  | some x => cases x <;> simp [Cond.value, hF, hx] at h ⊢ <;> exact h
/-! calls by a contract, in one piece -/
section Calls
variable {p : Program} {l : Launch} {e : Env} {R : Room} {s : State} {m : MethodId} {args : Array Value} {below : List Frame} {meth : Method} {c : Code} {T : State} {locs : List Loc} {cells slots : Nat} {Z : State} {a0 : Array Value} {h : Heap}
abbrev Meets1 (l : Launch) (y : MethodName) (bytes : ByteArray) (maxL : Nat) (ret : Option FieldType) (rm : Room) (Z : State) (as' : Array Value) (h : Heap) (Q : Option Value → Heap → List Loc → Prop) : Prop :=
  MetFree l y (head1 [Cond.code y bytes maxL ret] rm) (fun a U => a = as' ∧ Z.Warmed39 U.vm ∧ U.heap = h) (fun _ _ _ _ _ => True) (fun _ U o U' => ∃ v L, o = .returned v ∧ Q v U'.heap L ∧ FrameEnd U o U' L rm.cells rm.slots)
theorem callQ (X : Stand p l e R s m args below meth c T locs cells slots) (hx : p.tables.exec = Jvm.exec) (hZ : Z.Warmed39 s.vm) {own : String} {index : Nat} {y : MethodName} {bytes : ByteArray} {maxL : Nat} {ret : Option FieldType} (hown : s.vm.findClass own = some m.cls)
    (w1 : (Cond.methodLink own index y).before a0 Z = true) (w2 : (Cond.static y).before a0 Z = true) (w3 : (Cond.initialized y.cls).before a0 Z = true) (w4 : (Cond.code y bytes maxL ret).before a0 Z = true) (hy : y.cls ≠ "java/lang/invoke/MethodHandle" ∧ y.cls ≠ "java/lang/invoke/VarHandle")
    {rm : Room} {argsL rest : List Value} {Q : Option Value → Heap → List Loc → Prop} (hM : Meets1 l y bytes maxL ret rm Z argsL.toArray h Q) {W : Nat} (hf : rm.frames + 1 ≤ R.frames) (hl : W + (maxL + 11) + rm.locals ≤ R.locals) (eT : T.heap = h)
    {g : JFrame} (hg : g.method = m) (hsize : g.locals.size = c.maxLocals) (hlen : ∀ sig, parseMethodDescriptor y.desc = some sig → argsL.length = sig.parameters.length) (hstack : g.stack = argsL.reverse ++ rest) (hW : 2 * g.monitorRoom + (rest.map fun v => v.category).sum ≤ W) (hd : decode c.code g.pc = .ok (.invokestatic index, 3)) (hc : cells + rm.cells ≤ R.cells) (hs : slots + rm.slots ≤ R.slots) :
    ∃ v T' L, Stand p l e R s m args below meth c T' (locs ++ L) (cells + rm.cells) (slots + rm.slots) ∧ Q v T'.heap L ∧ ∀ target, Steps p.tables e below (T'.setTop { g with pc := g.pc + 3, stack := v.toList ++ rest }) target → Steps p.tables e below (T.setTop g) target := by
  obtain ⟨v, _, ⟨T', L', k', n'⟩, -, X', ⟨L, hQ, hl', hk', hn'⟩, st⟩ := Jvm.LawKit.callS X hx hown (mvT hZ w1) (mvT hZ w2) (mvT hZ w3) (mvT hZ w4) hy (backOf (W := W) hM hZ w4 w3 hf hl) hg hsize hlen hstack hW hd (fun _ _ => ⟨rfl, eT, hc, hs⟩)
  dsimp only [Pt.U, Pt.locs, Pt.cells, Pt.slots] at X' hl' hk' hn' st hQ
  subst hl' hk' hn'
  exact ⟨v, T', L, X', hQ, st⟩
theorem specQ (X : Stand p l e R s m args below meth c T locs cells slots) (hx : p.tables.exec = Jvm.exec) (hZ : Z.Warmed39 s.vm) {own : String} {index : Nat} {y : MethodName} {bytes : ByteArray} {maxL : Nat} (hy1 : y.name = "<init>") (hown : s.vm.findClass own = some m.cls)
    (w1 : (Cond.methodLink own index y).before a0 Z = true) (w2 : (Cond.instanceMethod y).before a0 Z = true) (w3 : (Cond.initialized y.cls).before a0 Z = true) (w4 : (Cond.code y bytes maxL none).before a0 Z = true) (hy : y.cls ≠ "java/lang/invoke/MethodHandle" ∧ y.cls ≠ "java/lang/invoke/VarHandle")
    {rm : Room} {a : Addr} {argsL rest : List Value} {Q : Option Value → Heap → List Loc → Prop} (hM : Meets1 l y bytes maxL none rm Z (.ref a :: argsL).toArray h Q) {W : Nat} (hf : rm.frames + 1 ≤ R.frames) (hl : W + (maxL + 11) + rm.locals ≤ R.locals) (eT : T.heap = h)
    {g : JFrame} (hg : g.method = m) (hsize : g.locals.size = c.maxLocals) (hlen : ∀ sig, parseMethodDescriptor y.desc = some sig → argsL.length = sig.parameters.length) (hstack : g.stack = argsL.reverse ++ .ref a :: rest) (hW : 2 * g.monitorRoom + (rest.map fun v => v.category).sum ≤ W) (hd : decode c.code g.pc = .ok (.invokespecial index, 3)) (hc : cells + rm.cells ≤ R.cells) (hs : slots + rm.slots ≤ R.slots) :
    ∃ v T' L, Stand p l e R s m args below meth c T' (locs ++ L) (cells + rm.cells) (slots + rm.slots) ∧ Q v T'.heap L ∧ ∀ target, Steps p.tables e below (T'.setTop { g with pc := g.pc + 3, stack := v.toList ++ rest }) target → Steps p.tables e below (T.setTop g) target := by
  obtain ⟨v, _, ⟨T', L', k', n'⟩, -, X', ⟨L, hQ, hl', hk', hn'⟩, st⟩ := X.specialBack hx hy1 hown (mvT hZ w1) (mvT hZ w2) (mvT hZ w4) hy (backOf (W := W) hM hZ w4 w3 hf hl) hg hsize (Steps.refl _) hlen hstack hW hd (fun _ _ => ⟨rfl, eT, hc, hs⟩)
  dsimp only [Pt.U, Pt.locs, Pt.cells, Pt.slots] at X' hl' hk' hn' st hQ
  subst hl' hk' hn'
  exact ⟨v, T', L, X', hQ, fun t k => st.trans k⟩
theorem virtQ (X : Stand p l e R s m args below meth c T locs cells slots) (hx : p.tables.exec = Jvm.exec) (hZ : Z.Warmed39 s.vm) {own : String} {index : Nat} {y : MethodName} {bytes : ByteArray} {maxL : Nat} {ret : Option FieldType} (hown : s.vm.findClass own = some m.cls)
    (w1 : (Cond.methodLink own index y).before a0 Z = true) (w2 : (Cond.instanceMethod y).before a0 Z = true) (w3 : (Cond.initialized y.cls).before a0 Z = true) (w4 : (Cond.code y bytes maxL ret).before a0 Z = true) (w5 : (Cond.declares y).before a0 Z = true) (w6 : (Cond.selects y.cls y y).before a0 Z = true) (hy : y.cls ≠ "java/lang/invoke/MethodHandle" ∧ y.cls ≠ "java/lang/invoke/VarHandle")
    {rm : Room} {a : Addr} (E : Exa Z h a y.cls) {argsL rest : List Value} {Q : Option Value → Heap → List Loc → Prop} (hM : Meets1 l y bytes maxL ret rm Z (.ref a :: argsL).toArray h Q) {W : Nat} (hf : rm.frames + 1 ≤ R.frames) (hl : W + (maxL + 11) + rm.locals ≤ R.locals) (eT : T.heap = h)
    {g : JFrame} (hg : g.method = m) (hsize : g.locals.size = c.maxLocals) (hlen : ∀ sig, parseMethodDescriptor y.desc = some sig → argsL.length = sig.parameters.length) (hstack : g.stack = argsL.reverse ++ .ref a :: rest) (hW : 2 * g.monitorRoom + (rest.map fun v => v.category).sum ≤ W) (hd : decode c.code g.pc = .ok (.invokevirtual index, 3)) (hc : cells + rm.cells ≤ R.cells) (hs : slots + rm.slots ≤ R.slots) :
    ∃ v T' L, Stand p l e R s m args below meth c T' (locs ++ L) (cells + rm.cells) (slots + rm.slots) ∧ Q v T'.heap L ∧ ∀ target, Steps p.tables e below (T'.setTop { g with pc := g.pc + 3, stack := v.toList ++ rest }) target → Steps p.tables e below (T.setTop g) target := by
  obtain ⟨cq, kq, qa, qb, qc⟩ := isOf hZ eT E
  obtain ⟨v, _, ⟨T', L', k', n'⟩, -, X', ⟨L, hQ, hl', hk', hn'⟩, st⟩ := X.virtualBack hx (y := y) (z := y) hown (mvT hZ w1) (mvT hZ w5) (notFace_of_selects (args := #[]) (mvT hZ w6)) (mvT hZ w6) (mvT hZ w2) hy (backOf (W := W) hM hZ w4 w3 hf hl) qa qc hg hsize (Steps.refl _) hlen hstack hW hd (fun _ _ => ⟨rfl, eT, hc, hs⟩)
  dsimp only [Pt.U, Pt.locs, Pt.cells, Pt.slots] at X' hl' hk' hn' st hQ
  subst hl' hk' hn'
  exact ⟨v, T', L, X', hQ, fun t k => st.trans k⟩
theorem privQ (X : Stand p l e R s m args below meth c T locs cells slots) (hx : p.tables.exec = Jvm.exec) (hZ : Z.Warmed39 s.vm) {own : String} {index : Nat} {y : MethodName} {bytes : ByteArray} {maxL : Nat} {ret : Option FieldType} (hown : s.vm.findClass own = some m.cls)
    (w1 : (Cond.methodLink own index y).before a0 Z = true) (w2 : (Cond.instanceMethod y).before a0 Z = true) (w3 : (Cond.initialized y.cls).before a0 Z = true) (w4 : (Cond.code y bytes maxL ret).before a0 Z = true) (w5 : (Cond.privateMethod y).before a0 Z = true) (w6 : (Cond.selects y.cls y y).before a0 Z = true) (hy : y.cls ≠ "java/lang/invoke/MethodHandle" ∧ y.cls ≠ "java/lang/invoke/VarHandle")
    {rm : Room} {a : Addr} {C : String} (E : Exa Z h a C) {argsL rest : List Value} {Q : Option Value → Heap → List Loc → Prop} (hM : Meets1 l y bytes maxL ret rm Z (.ref a :: argsL).toArray h Q) {W : Nat} (hf : rm.frames + 1 ≤ R.frames) (hl : W + (maxL + 11) + rm.locals ≤ R.locals) (eT : T.heap = h)
    {g : JFrame} (hg : g.method = m) (hsize : g.locals.size = c.maxLocals) (hlen : ∀ sig, parseMethodDescriptor y.desc = some sig → argsL.length = sig.parameters.length) (hstack : g.stack = argsL.reverse ++ .ref a :: rest) (hW : 2 * g.monitorRoom + (rest.map fun v => v.category).sum ≤ W) (hd : decode c.code g.pc = .ok (.invokevirtual index, 3)) (hc : cells + rm.cells ≤ R.cells) (hs : slots + rm.slots ≤ R.slots) :
    ∃ v T' L, Stand p l e R s m args below meth c T' (locs ++ L) (cells + rm.cells) (slots + rm.slots) ∧ Q v T'.heap L ∧ ∀ target, Steps p.tables e below (T'.setTop { g with pc := g.pc + 3, stack := v.toList ++ rest }) target → Steps p.tables e below (T.setTop g) target := by
  obtain ⟨cq, q1, q2⟩ := E.cell
  obtain ⟨v, _, ⟨T', L', k', n'⟩, -, X', ⟨L, hQ, hl', hk', hn'⟩, st⟩ := X.privateBack hx (y := y) hown (mvT hZ w1) (mvT hZ w2) (mvT hZ w6) (Cond.privateMethod_at (mvP hZ w5 (args := #[]))) (mvT hZ w4) hy (backOf (W := W) hM hZ w4 w3 hf hl) hg hsize (Steps.refl _) (a := a) (by rw [eT]; exact q1) q2 hlen hstack hW hd (fun _ _ => ⟨rfl, eT, hc, hs⟩)
  dsimp only [Pt.U, Pt.locs, Pt.cells, Pt.slots] at X' hl' hk' hn' st hQ
  subst hl' hk' hn'
  exact ⟨v, T', L, X', hQ, fun t k => st.trans k⟩
end Calls
theorem d1_0 : decode prog_33_method_2_code 0 = .ok (.lload_n 0, 1) := by decide +kernel
theorem d1_1 : decode prog_33_method_2_code 1 = .ok (.lconst 1, 1) := by decide +kernel
theorem d1_2 : decode prog_33_method_2_code 2 = .ok (.lcmp, 1) := by decide +kernel
theorem d1_3 : decode prog_33_method_2_code 3 = .ok (.ifCond .lt 15, 3) := by decide +kernel
theorem d1_18 : decode prog_33_method_2_code 18 = .ok (.iconst 0, 1) := by decide +kernel
theorem d1_6 : decode prog_33_method_2_code 6 = .ok (.lload_n 0, 1) := by decide +kernel
theorem d1_7 : decode prog_33_method_2_code 7 = .ok (.ldc2_w 9, 3) := by decide +kernel
theorem d1_10 : decode prog_33_method_2_code 10 = .ok (.lcmp, 1) := by decide +kernel
theorem d1_11 : decode prog_33_method_2_code 11 = .ok (.ifCond .gt 7, 3) := by decide +kernel
theorem d1_14 : decode prog_33_method_2_code 14 = .ok (.iconst 1, 1) := by decide +kernel
theorem d1_15 : decode prog_33_method_2_code 15 = .ok (.goto 4, 3) := by decide +kernel
theorem d1_19 : decode prog_33_method_2_code 19 = .ok (.ireturn, 1) := by decide +kernel
def fShares (j0 : Int64) : Int32 := (bi (¬ (j0 < (1 : Int64)) ∧ (¬ ((999999999 : Int64) < j0))))
theorem ef_rm1 (m : MethodId) (j0 : Int64) : entryFrame m #[(.long j0)] 2 = mkF m 0 #[.val (.long j0), .second] [] := by first | (simp [entryFrame, mkF, argsToLocals, Value.category]; done) | rfl
theorem pn_0 : plainName "com/example/tickwright/tickwright/model/Limits" = true := by first | (simp [plainName, overriddenIn]; done) | decide +kernel
def Q_rm1 (Z : State) (j0 : Int64)  (h0 : Heap) (n0 : Nat) (v : Option Value) (h : Heap) (L : List Loc) : Prop := v = some (Value.int (fShares j0)) ∧ Fr n0 L ∧ h = h0
set_option maxRecDepth 65536 in
set_option maxHeartbeats 40000000 in
theorem rm1 (l : Launch) (Z : State) (a0 : Array Value) (hw : ∀ d ∈ tables_1, d.before a0 Z = true) (ws : List Jvm.Cond) (j0 : Int64)  (h0 : Heap) (n0 : Nat) (Z0 : n0 ≤ h0.size)  :
    MetFree l (⟨"com/example/tickwright/tickwright/model/Limits", "isShares", "(J)Z"⟩ : MethodName) (head1 (Jvm.Cond.code (⟨"com/example/tickwright/tickwright/model/Limits", "isShares", "(J)Z"⟩ : MethodName) prog_33_method_2_code 2 (some .boolean) :: ws) ({ frames := 0, cells := 0, slots := 0, locals := 0 } : Room)) (fun a U => a = #[(.long j0)] ∧ Z.Warmed39 U.vm ∧ U.heap = h0) (fun _ _ _ _ _ => True) (fun _ U o U' => ∃ v L, o = .returned v ∧ (Q_rm1 Z j0 h0 n0) v U'.heap L ∧ FrameEnd U o U' L ({ frames := 0, cells := 0, slots := 0, locals := 0 } : Room).cells ({ frames := 0, cells := 0, slots := 0, locals := 0 } : Room).slots) := by
  refine MetFree.of_bodySF (plainFor_of_name pn_0) hisR ?_
  intro p e s m args below meth c s₁ Bd hml0 hP hK
  obtain ⟨rfl, hZ, hh⟩ := hP
  have hx := Bd.exec
  have hby := Bd.bytes
  have hml : c.maxLocals = 2 := hml0
  have hown : s.vm.findClass "com/example/tickwright/tickwright/model/Limits" = some m.cls := findClass_of_methodNamed Bd.named
  have hnm := (name_of_methodNamed Bd.named Bd.method).1
  have X0 : Stand p l e ({ frames := 0, cells := 0, slots := 0, locals := 0 } : Room) s m #[(.long j0)] below meth c s₁ [] 0 0 := Stand.of_body Bd
  have e0 : s₁.heap = h0 := by rw [← hh, Bd.state]; rfl
  have N0 := Fr.nil n0
  show OFin p e below (ORet (Q_rm1 Z j0 h0 n0) s ({ frames := 0, cells := 0, slots := 0, locals := 0 } : Room).cells ({ frames := 0, cells := 0, slots := 0, locals := 0 } : Room).slots) (s₁.setTop (entryFrame m #[(.long j0)] 2))
  refine OFin.go (fun t k => castTop (ef_rm1 m j0) k) ?_
  show OFin p e below (ORet (Q_rm1 Z j0 h0 n0) s ({ frames := 0, cells := 0, slots := 0, locals := 0 } : Room).cells ({ frames := 0, cells := 0, slots := 0, locals := 0 } : Room).slots) (s₁.setTop (mkF m 0 #[.val (.long j0), .second] []))
  have S1 : ∀ t, Steps p.tables e below (s₁.setTop (mkF m 3 #[.val (.long j0), .second] [(.int (lcmpW j0 (1 : Int64)))])) t → Steps p.tables e below (s₁.setTop (mkF m 0 #[.val (.long j0), .second] [])) t := by
    intro t k
    show Steps p.tables e below (s₁.setTop (mkF m 0 #[.val (.long j0), .second] [])) t
    refine XS.lloadN X0.here hx rfl (hb hby d1_0) rfl ?_
    show Steps p.tables e below (s₁.setTop (mkF m 1 #[.val (.long j0), .second] [(.long j0)])) t
    refine XS.lconst X0.here hx rfl (hb hby d1_1) ?_
    show Steps p.tables e below (s₁.setTop (mkF m 2 #[.val (.long j0), .second] [(.long (1 : Int64)), (.long j0)])) t
    refine XS.lcmp X0.here hx rfl (hb hby d1_2) rfl ?_
    exact k
  refine OFin.go S1 ?_
  have J2 : ∀ t, Steps p.tables e below (s₁.setTop (mkF m 19 #[.val (.long j0), .second] [(.int (bi (¬ (j0 < (1 : Int64)) ∧ (¬ ((999999999 : Int64) < j0)))))])) t → Steps p.tables e below (s₁.setTop (mkF m 3 #[.val (.long j0), .second] [(.int (lcmpW j0 (1 : Int64)))])) t := by
    intro t k
    show Steps p.tables e below (s₁.setTop (mkF m 3 #[.val (.long j0), .second] [(.int (lcmpW j0 (1 : Int64)))])) t
    by_cases h3 : (j0 < (1 : Int64))
    · refine XS.ifYes X0.here hx rfl (pc0 := 3) (pc' := 18) rfl (hb hby d1_3) rfl (lc_lt_t h3) (by decide) (by decide) ?_
      show Steps p.tables e below (s₁.setTop (mkF m 18 #[.val (.long j0), .second] [])) t
      refine XS.iconst X0.here hx rfl (hb hby d1_18) ?_
      show Steps p.tables e below (s₁.setTop (mkF m 19 #[.val (.long j0), .second] [(.int (0 : Int32))])) t
      exact (castTop (congrArg (fun z => (mkF m 19 #[.val (.long j0), .second] [(.int z)])) (bi_f (fun q => q.1 h3)).symm) k)
    · refine XS.ifNo X0.here hx rfl (hb hby d1_3) rfl (lc_lt_f h3) ?_
      show Steps p.tables e below (s₁.setTop (mkF m 6 #[.val (.long j0), .second] [])) t
      refine XS.lloadN X0.here hx rfl (hb hby d1_6) rfl ?_
      show Steps p.tables e below (s₁.setTop (mkF m 7 #[.val (.long j0), .second] [(.long j0)])) t
      refine X0.ldc2Long hx hown (mvT hZ (hw _ (List.mem_of_getElem? (i := 6) rfl))) (g := (mkF m 7 #[.val (.long j0), .second] [(.long j0)])) rfl (hb hby d1_7) _ ?_
      show Steps p.tables e below (s₁.setTop (mkF m 10 #[.val (.long j0), .second] [(.long (999999999 : Int64)), (.long j0)])) t
      refine XS.lcmp X0.here hx rfl (hb hby d1_10) rfl ?_
      show Steps p.tables e below (s₁.setTop (mkF m 11 #[.val (.long j0), .second] [(.int (lcmpW j0 (999999999 : Int64)))])) t
      by_cases h4 : ((999999999 : Int64) < j0)
      · refine XS.ifYes X0.here hx rfl (pc0 := 11) (pc' := 18) rfl (hb hby d1_11) rfl (lc_gt_t h4) (by decide) (by decide) ?_
        show Steps p.tables e below (s₁.setTop (mkF m 18 #[.val (.long j0), .second] [])) t
        refine XS.iconst X0.here hx rfl (hb hby d1_18) ?_
        show Steps p.tables e below (s₁.setTop (mkF m 19 #[.val (.long j0), .second] [(.int (0 : Int32))])) t
        exact (castTop (congrArg (fun z => (mkF m 19 #[.val (.long j0), .second] [(.int z)])) (bi_f (fun q => (fun q => q h4) q.2)).symm) k)
      · refine XS.ifNo X0.here hx rfl (hb hby d1_11) rfl (lc_gt_f h4) ?_
        show Steps p.tables e below (s₁.setTop (mkF m 14 #[.val (.long j0), .second] [])) t
        refine XS.iconst X0.here hx rfl (hb hby d1_14) ?_
        show Steps p.tables e below (s₁.setTop (mkF m 15 #[.val (.long j0), .second] [(.int (1 : Int32))])) t
        refine XS.goto X0.here hx rfl (pc0 := 15) (pc' := 19) rfl (hb hby d1_15) (by decide) (by decide) ?_
        show Steps p.tables e below (s₁.setTop (mkF m 19 #[.val (.long j0), .second] [(.int (1 : Int32))])) t
        exact (castTop (congrArg (fun z => (mkF m 19 #[.val (.long j0), .second] [(.int z)])) (bi_t ⟨h3, h4⟩).symm) k)
  refine OFin.go J2 ?_
  exact finZ X0 hx Bd.notSynchronized (t := .boolean) Bd.returns (by simp) (hb hby d1_19) (nar_bi _) (by decide) (by decide) (⟨congrArg (fun z => some (Value.int z)) (show (bi (¬ (j0 < (1 : Int64)) ∧ (¬ ((999999999 : Int64) < j0)))) = (bi (¬ (j0 < (1 : Int64)) ∧ (¬ ((999999999 : Int64) < j0)))) by rfl : (bi (¬ (j0 < (1 : Int64)) ∧ (¬ ((999999999 : Int64) < j0)))) = (fShares j0)), N0, e0⟩)
theorem d2_0 : decode method_2_code 0 = .ok (.lconst 0, 1) := by decide +kernel
theorem d2_1 : decode method_2_code 1 = .ok (.lload_n 0, 1) := by decide +kernel
theorem d2_2 : decode method_2_code 2 = .ok (.lcmp, 1) := by decide +kernel
theorem d2_3 : decode method_2_code 3 = .ok (.ifCond .ge 15, 3) := by decide +kernel
theorem d2_6 : decode method_2_code 6 = .ok (.lload_n 0, 1) := by decide +kernel
theorem d2_7 : decode method_2_code 7 = .ok (.ldc2_w 7, 3) := by decide +kernel
theorem d2_10 : decode method_2_code 10 = .ok (.lcmp, 1) := by decide +kernel
theorem d2_11 : decode method_2_code 11 = .ok (.ifCond .ge 7, 3) := by decide +kernel
theorem d2_14 : decode method_2_code 14 = .ok (.iconst 1, 1) := by decide +kernel
theorem d2_15 : decode method_2_code 15 = .ok (.goto 4, 3) := by decide +kernel
theorem d2_18 : decode method_2_code 18 = .ok (.iconst 0, 1) := by decide +kernel
theorem d2_19 : decode method_2_code 19 = .ok (.ireturn, 1) := by decide +kernel
def fRef (j0 : Int64) : Int32 := (bi (((0 : Int64) < j0) ∧ (j0 < (1000000000 : Int64))))
theorem ef_rm2 (m : MethodId) (j0 : Int64) : entryFrame m #[(.long j0)] 2 = mkF m 0 #[.val (.long j0), .second] [] := by first | (simp [entryFrame, mkF, argsToLocals, Value.category]; done) | rfl
theorem pn_1 : plainName "com/example/tickwright/tickwright/model/LimitsIsSharesPinLaw" = true := by first | (simp [plainName, overriddenIn]; done) | decide +kernel
def Q_rm2 (Z : State) (j0 : Int64)  (h0 : Heap) (n0 : Nat) (v : Option Value) (h : Heap) (L : List Loc) : Prop := v = some (Value.int (fRef j0)) ∧ Fr n0 L ∧ h = h0
set_option maxRecDepth 65536 in
set_option maxHeartbeats 40000000 in
theorem rm2 (l : Launch) (Z : State) (a0 : Array Value) (hw : ∀ d ∈ tables_1, d.before a0 Z = true) (ws : List Jvm.Cond) (j0 : Int64)  (h0 : Heap) (n0 : Nat) (Z0 : n0 ≤ h0.size)  :
    MetFree l (⟨"com/example/tickwright/tickwright/model/LimitsIsSharesPinLaw", "ref", "(J)Z"⟩ : MethodName) (head1 (Jvm.Cond.code (⟨"com/example/tickwright/tickwright/model/LimitsIsSharesPinLaw", "ref", "(J)Z"⟩ : MethodName) method_2_code 2 (some .boolean) :: ws) ({ frames := 0, cells := 0, slots := 0, locals := 0 } : Room)) (fun a U => a = #[(.long j0)] ∧ Z.Warmed39 U.vm ∧ U.heap = h0) (fun _ _ _ _ _ => True) (fun _ U o U' => ∃ v L, o = .returned v ∧ (Q_rm2 Z j0 h0 n0) v U'.heap L ∧ FrameEnd U o U' L ({ frames := 0, cells := 0, slots := 0, locals := 0 } : Room).cells ({ frames := 0, cells := 0, slots := 0, locals := 0 } : Room).slots) := by
  refine MetFree.of_bodySF (plainFor_of_name pn_1) hisR ?_
  intro p e s m args below meth c s₁ Bd hml0 hP hK
  obtain ⟨rfl, hZ, hh⟩ := hP
  have hx := Bd.exec
  have hby := Bd.bytes
  have hml : c.maxLocals = 2 := hml0
  have hown : s.vm.findClass "com/example/tickwright/tickwright/model/LimitsIsSharesPinLaw" = some m.cls := findClass_of_methodNamed Bd.named
  have hnm := (name_of_methodNamed Bd.named Bd.method).1
  have X0 : Stand p l e ({ frames := 0, cells := 0, slots := 0, locals := 0 } : Room) s m #[(.long j0)] below meth c s₁ [] 0 0 := Stand.of_body Bd
  have e0 : s₁.heap = h0 := by rw [← hh, Bd.state]; rfl
  have N0 := Fr.nil n0
  show OFin p e below (ORet (Q_rm2 Z j0 h0 n0) s ({ frames := 0, cells := 0, slots := 0, locals := 0 } : Room).cells ({ frames := 0, cells := 0, slots := 0, locals := 0 } : Room).slots) (s₁.setTop (entryFrame m #[(.long j0)] 2))
  refine OFin.go (fun t k => castTop (ef_rm2 m j0) k) ?_
  show OFin p e below (ORet (Q_rm2 Z j0 h0 n0) s ({ frames := 0, cells := 0, slots := 0, locals := 0 } : Room).cells ({ frames := 0, cells := 0, slots := 0, locals := 0 } : Room).slots) (s₁.setTop (mkF m 0 #[.val (.long j0), .second] []))
  have S1 : ∀ t, Steps p.tables e below (s₁.setTop (mkF m 3 #[.val (.long j0), .second] [(.int (lcmpW (0 : Int64) j0))])) t → Steps p.tables e below (s₁.setTop (mkF m 0 #[.val (.long j0), .second] [])) t := by
    intro t k
    show Steps p.tables e below (s₁.setTop (mkF m 0 #[.val (.long j0), .second] [])) t
    refine XS.lconst X0.here hx rfl (hb hby d2_0) ?_
    show Steps p.tables e below (s₁.setTop (mkF m 1 #[.val (.long j0), .second] [(.long (0 : Int64))])) t
    refine XS.lloadN X0.here hx rfl (hb hby d2_1) rfl ?_
    show Steps p.tables e below (s₁.setTop (mkF m 2 #[.val (.long j0), .second] [(.long j0), (.long (0 : Int64))])) t
    refine XS.lcmp X0.here hx rfl (hb hby d2_2) rfl ?_
    exact k
  refine OFin.go S1 ?_
  have J2 : ∀ t, Steps p.tables e below (s₁.setTop (mkF m 19 #[.val (.long j0), .second] [(.int (bi (((0 : Int64) < j0) ∧ (j0 < (1000000000 : Int64)))))])) t → Steps p.tables e below (s₁.setTop (mkF m 3 #[.val (.long j0), .second] [(.int (lcmpW (0 : Int64) j0))])) t := by
    intro t k
    show Steps p.tables e below (s₁.setTop (mkF m 3 #[.val (.long j0), .second] [(.int (lcmpW (0 : Int64) j0))])) t
    by_cases h3 : ((0 : Int64) < j0)
    · refine XS.ifNo X0.here hx rfl (hb hby d2_3) rfl (lc_ge_f h3) ?_
      show Steps p.tables e below (s₁.setTop (mkF m 6 #[.val (.long j0), .second] [])) t
      refine XS.lloadN X0.here hx rfl (hb hby d2_6) rfl ?_
      show Steps p.tables e below (s₁.setTop (mkF m 7 #[.val (.long j0), .second] [(.long j0)])) t
      refine X0.ldc2Long hx hown (mvT hZ (hw _ (List.mem_of_getElem? (i := 11) rfl))) (g := (mkF m 7 #[.val (.long j0), .second] [(.long j0)])) rfl (hb hby d2_7) _ ?_
      show Steps p.tables e below (s₁.setTop (mkF m 10 #[.val (.long j0), .second] [(.long (1000000000 : Int64)), (.long j0)])) t
      refine XS.lcmp X0.here hx rfl (hb hby d2_10) rfl ?_
      show Steps p.tables e below (s₁.setTop (mkF m 11 #[.val (.long j0), .second] [(.int (lcmpW j0 (1000000000 : Int64)))])) t
      by_cases h4 : (j0 < (1000000000 : Int64))
      · refine XS.ifNo X0.here hx rfl (hb hby d2_11) rfl (lc_ge_f h4) ?_
        show Steps p.tables e below (s₁.setTop (mkF m 14 #[.val (.long j0), .second] [])) t
        refine XS.iconst X0.here hx rfl (hb hby d2_14) ?_
        show Steps p.tables e below (s₁.setTop (mkF m 15 #[.val (.long j0), .second] [(.int (1 : Int32))])) t
        refine XS.goto X0.here hx rfl (pc0 := 15) (pc' := 19) rfl (hb hby d2_15) (by decide) (by decide) ?_
        show Steps p.tables e below (s₁.setTop (mkF m 19 #[.val (.long j0), .second] [(.int (1 : Int32))])) t
        exact (castTop (congrArg (fun z => (mkF m 19 #[.val (.long j0), .second] [(.int z)])) (bi_t ⟨h3, h4⟩).symm) k)
      · refine XS.ifYes X0.here hx rfl (pc0 := 11) (pc' := 18) rfl (hb hby d2_11) rfl (lc_ge_t h4) (by decide) (by decide) ?_
        show Steps p.tables e below (s₁.setTop (mkF m 18 #[.val (.long j0), .second] [])) t
        refine XS.iconst X0.here hx rfl (hb hby d2_18) ?_
        show Steps p.tables e below (s₁.setTop (mkF m 19 #[.val (.long j0), .second] [(.int (0 : Int32))])) t
        exact (castTop (congrArg (fun z => (mkF m 19 #[.val (.long j0), .second] [(.int z)])) (bi_f (fun q => h4 q.2)).symm) k)
    · refine XS.ifYes X0.here hx rfl (pc0 := 3) (pc' := 18) rfl (hb hby d2_3) rfl (lc_ge_t h3) (by decide) (by decide) ?_
      show Steps p.tables e below (s₁.setTop (mkF m 18 #[.val (.long j0), .second] [])) t
      refine XS.iconst X0.here hx rfl (hb hby d2_18) ?_
      show Steps p.tables e below (s₁.setTop (mkF m 19 #[.val (.long j0), .second] [(.int (0 : Int32))])) t
      exact (castTop (congrArg (fun z => (mkF m 19 #[.val (.long j0), .second] [(.int z)])) (bi_f (fun q => h3 q.1)).symm) k)
  refine OFin.go J2 ?_
  exact finZ X0 hx Bd.notSynchronized (t := .boolean) Bd.returns (by simp) (hb hby d2_19) (nar_bi _) (by decide) (by decide) (⟨congrArg (fun z => some (Value.int z)) (show (bi (((0 : Int64) < j0) ∧ (j0 < (1000000000 : Int64)))) = (bi (((0 : Int64) < j0) ∧ (j0 < (1000000000 : Int64)))) by rfl : (bi (((0 : Int64) < j0) ∧ (j0 < (1000000000 : Int64)))) = (fRef j0)), N0, e0⟩)
theorem own_same (z : Int64) : fShares z = fRef z := by
  unfold fShares fRef
  rw [bi_iff]
  simp only [Int64.lt_iff_toInt_lt]
  simp only [Int64.reduceToInt]
  omega
theorem ef_rm0 (m : MethodId) (j0 : Int64) (u1 : Int32) : entryFrame m #[(.long j0), (.int u1)] maxLocals = mkF m 0 #[.val (.long j0), .second, .val (.int u1), .unset, .unset, .unset, .unset, .unset, .unset, .unset] [] := by first | (simp [entryFrame, mkF, argsToLocals, Value.category, maxLocals]; done) | rfl
def Q_rm0 (Z : State) (j0 : Int64) (u1 : Int32)  (h0 : Heap) (n0 : Nat) (v : Option Value) (h : Heap) (L : List Loc) : Prop := v = some (.int (1 : Int32)) ∧ Fr n0 L
theorem pd_0 : parseMethodDescriptor "(J)Z" = some ⟨[.long], some .boolean⟩ := by decide +kernel
set_option maxRecDepth 65536 in
set_option maxHeartbeats 40000000 in
theorem rm0 (l : Launch) (Z : State) (a0 : Array Value) (hw : ∀ d ∈ tables_1, d.before a0 Z = true) (ws : List Jvm.Cond) (j0 : Int64) (u1 : Int32)  (h0 : Heap) (n0 : Nat) (Z0 : n0 ≤ h0.size)  :
    MetFree l x (head1 (Jvm.Cond.code x code maxLocals ret :: ws) room_1) (fun a U => a = #[(.long j0), (.int u1)] ∧ Z.Warmed39 U.vm ∧ U.heap = h0) (fun _ _ _ _ _ => True) (fun _ U o U' => ∃ v L, o = .returned v ∧ (Q_rm0 Z j0 u1 h0 n0) v U'.heap L ∧ FrameEnd U o U' L 0 0) := by
  refine MetFree.of_bodySF (plainFor_of_name pn_1) hisR ?_
  intro p e s m args below meth c s₁ Bd hml0 hP hK
  obtain ⟨rfl, hZ, hh⟩ := hP
  have hx := Bd.exec
  have hby := Bd.bytes
  have hml : c.maxLocals = 10 := hml0
  have hown : s.vm.findClass "com/example/tickwright/tickwright/model/LimitsIsSharesPinLaw" = some m.cls := findClass_of_methodNamed Bd.named
  have hnm := (name_of_methodNamed Bd.named Bd.method).1
  have X0 : Stand p l e room_1 s m #[(.long j0), (.int u1)] below meth c s₁ [] 0 0 := Stand.of_body Bd
  have e0 : s₁.heap = h0 := by rw [← hh, Bd.state]; rfl
  have N0 := Fr.nil n0
  show OFin p e below (ORet (Q_rm0 Z j0 u1 h0 n0) s 0 0) (s₁.setTop (entryFrame m #[(.long j0), (.int u1)] maxLocals))
  refine OFin.go (fun t k => castTop (ef_rm0 m j0 u1) k) ?_
  show OFin p e below (ORet (Q_rm0 Z j0 u1 h0 n0) s 0 0) (s₁.setTop (mkF m 0 #[.val (.long j0), .second, .val (.int u1), .unset, .unset, .unset, .unset, .unset, .unset, .unset] []))
  have S1 : ∀ t, Steps p.tables e below (s₁.setTop (mkF m 24 #[.val (.long j0), .second, .val (.int u1), .val (.long (((u1 &&& (3 : Int32)).toInt64) - (1 : Int64))), .second, .val (.long ((999999998 : Int64) + (((u1 >>> ((2 : Int32) &&& 31)) &&& (3 : Int32)).toInt64))), .second, .unset, .unset, .unset] [(.int ((u1 >>> ((4 : Int32) &&& 31)) &&& (1 : Int32)))])) t → Steps p.tables e below (s₁.setTop (mkF m 0 #[.val (.long j0), .second, .val (.int u1), .unset, .unset, .unset, .unset, .unset, .unset, .unset] [])) t := by
    intro t k
    show Steps p.tables e below (s₁.setTop (mkF m 0 #[.val (.long j0), .second, .val (.int u1), .unset, .unset, .unset, .unset, .unset, .unset, .unset] [])) t
    refine XS.iloadN X0.here hx rfl (hb hby at_0) rfl ?_
    show Steps p.tables e below (s₁.setTop (mkF m 1 #[.val (.long j0), .second, .val (.int u1), .unset, .unset, .unset, .unset, .unset, .unset, .unset] [(.int u1)])) t
    refine XS.iconst X0.here hx rfl (hb hby at_1) ?_
    show Steps p.tables e below (s₁.setTop (mkF m 2 #[.val (.long j0), .second, .val (.int u1), .unset, .unset, .unset, .unset, .unset, .unset, .unset] [(.int (3 : Int32)), (.int u1)])) t
    refine XS.iand X0.here hx rfl (hb hby at_2) rfl ?_
    show Steps p.tables e below (s₁.setTop (mkF m 3 #[.val (.long j0), .second, .val (.int u1), .unset, .unset, .unset, .unset, .unset, .unset, .unset] [(.int (u1 &&& (3 : Int32)))])) t
    refine XS.i2l X0.here hx rfl (hb hby at_3) rfl ?_
    show Steps p.tables e below (s₁.setTop (mkF m 4 #[.val (.long j0), .second, .val (.int u1), .unset, .unset, .unset, .unset, .unset, .unset, .unset] [(.long ((u1 &&& (3 : Int32)).toInt64))])) t
    refine XS.lconst X0.here hx rfl (hb hby at_4) ?_
    show Steps p.tables e below (s₁.setTop (mkF m 5 #[.val (.long j0), .second, .val (.int u1), .unset, .unset, .unset, .unset, .unset, .unset, .unset] [(.long (1 : Int64)), (.long ((u1 &&& (3 : Int32)).toInt64))])) t
    refine XS.lsub X0.here hx rfl (hb hby at_5) rfl ?_
    show Steps p.tables e below (s₁.setTop (mkF m 6 #[.val (.long j0), .second, .val (.int u1), .unset, .unset, .unset, .unset, .unset, .unset, .unset] [(.long (((u1 &&& (3 : Int32)).toInt64) - (1 : Int64)))])) t
    refine XS.lstoreN X0.here hx rfl (hb hby at_6) rfl (l' := #[.val (.long j0), .second, .val (.int u1), .val (.long (((u1 &&& (3 : Int32)).toInt64) - (1 : Int64))), .second, .unset, .unset, .unset, .unset, .unset]) rfl ?_
    show Steps p.tables e below (s₁.setTop (mkF m 7 #[.val (.long j0), .second, .val (.int u1), .val (.long (((u1 &&& (3 : Int32)).toInt64) - (1 : Int64))), .second, .unset, .unset, .unset, .unset, .unset] [])) t
    refine X0.ldc2Long hx hown (mvT hZ (hw _ (List.mem_of_getElem? (i := 0) rfl))) (g := (mkF m 7 #[.val (.long j0), .second, .val (.int u1), .val (.long (((u1 &&& (3 : Int32)).toInt64) - (1 : Int64))), .second, .unset, .unset, .unset, .unset, .unset] [])) rfl (hb hby at_7) _ ?_
    show Steps p.tables e below (s₁.setTop (mkF m 10 #[.val (.long j0), .second, .val (.int u1), .val (.long (((u1 &&& (3 : Int32)).toInt64) - (1 : Int64))), .second, .unset, .unset, .unset, .unset, .unset] [(.long (999999998 : Int64))])) t
    refine XS.iloadN X0.here hx rfl (hb hby at_10) rfl ?_
    show Steps p.tables e below (s₁.setTop (mkF m 11 #[.val (.long j0), .second, .val (.int u1), .val (.long (((u1 &&& (3 : Int32)).toInt64) - (1 : Int64))), .second, .unset, .unset, .unset, .unset, .unset] [(.int u1), (.long (999999998 : Int64))])) t
    refine XS.iconst X0.here hx rfl (hb hby at_11) ?_
    show Steps p.tables e below (s₁.setTop (mkF m 12 #[.val (.long j0), .second, .val (.int u1), .val (.long (((u1 &&& (3 : Int32)).toInt64) - (1 : Int64))), .second, .unset, .unset, .unset, .unset, .unset] [(.int (2 : Int32)), (.int u1), (.long (999999998 : Int64))])) t
    refine XS.ishr X0.here hx rfl (hb hby at_12) rfl ?_
    show Steps p.tables e below (s₁.setTop (mkF m 13 #[.val (.long j0), .second, .val (.int u1), .val (.long (((u1 &&& (3 : Int32)).toInt64) - (1 : Int64))), .second, .unset, .unset, .unset, .unset, .unset] [(.int (u1 >>> ((2 : Int32) &&& 31))), (.long (999999998 : Int64))])) t
    refine XS.iconst X0.here hx rfl (hb hby at_13) ?_
    show Steps p.tables e below (s₁.setTop (mkF m 14 #[.val (.long j0), .second, .val (.int u1), .val (.long (((u1 &&& (3 : Int32)).toInt64) - (1 : Int64))), .second, .unset, .unset, .unset, .unset, .unset] [(.int (3 : Int32)), (.int (u1 >>> ((2 : Int32) &&& 31))), (.long (999999998 : Int64))])) t
    refine XS.iand X0.here hx rfl (hb hby at_14) rfl ?_
    show Steps p.tables e below (s₁.setTop (mkF m 15 #[.val (.long j0), .second, .val (.int u1), .val (.long (((u1 &&& (3 : Int32)).toInt64) - (1 : Int64))), .second, .unset, .unset, .unset, .unset, .unset] [(.int ((u1 >>> ((2 : Int32) &&& 31)) &&& (3 : Int32))), (.long (999999998 : Int64))])) t
    refine XS.i2l X0.here hx rfl (hb hby at_15) rfl ?_
    show Steps p.tables e below (s₁.setTop (mkF m 16 #[.val (.long j0), .second, .val (.int u1), .val (.long (((u1 &&& (3 : Int32)).toInt64) - (1 : Int64))), .second, .unset, .unset, .unset, .unset, .unset] [(.long (((u1 >>> ((2 : Int32) &&& 31)) &&& (3 : Int32)).toInt64)), (.long (999999998 : Int64))])) t
    refine XS.ladd X0.here hx rfl (hb hby at_16) rfl ?_
    show Steps p.tables e below (s₁.setTop (mkF m 17 #[.val (.long j0), .second, .val (.int u1), .val (.long (((u1 &&& (3 : Int32)).toInt64) - (1 : Int64))), .second, .unset, .unset, .unset, .unset, .unset] [(.long ((999999998 : Int64) + (((u1 >>> ((2 : Int32) &&& 31)) &&& (3 : Int32)).toInt64)))])) t
    refine XS.lstore X0.here hx rfl (hb hby at_17) rfl (l' := #[.val (.long j0), .second, .val (.int u1), .val (.long (((u1 &&& (3 : Int32)).toInt64) - (1 : Int64))), .second, .val (.long ((999999998 : Int64) + (((u1 >>> ((2 : Int32) &&& 31)) &&& (3 : Int32)).toInt64))), .second, .unset, .unset, .unset]) rfl ?_
    show Steps p.tables e below (s₁.setTop (mkF m 19 #[.val (.long j0), .second, .val (.int u1), .val (.long (((u1 &&& (3 : Int32)).toInt64) - (1 : Int64))), .second, .val (.long ((999999998 : Int64) + (((u1 >>> ((2 : Int32) &&& 31)) &&& (3 : Int32)).toInt64))), .second, .unset, .unset, .unset] [])) t
    refine XS.iloadN X0.here hx rfl (hb hby at_19) rfl ?_
    show Steps p.tables e below (s₁.setTop (mkF m 20 #[.val (.long j0), .second, .val (.int u1), .val (.long (((u1 &&& (3 : Int32)).toInt64) - (1 : Int64))), .second, .val (.long ((999999998 : Int64) + (((u1 >>> ((2 : Int32) &&& 31)) &&& (3 : Int32)).toInt64))), .second, .unset, .unset, .unset] [(.int u1)])) t
    refine XS.iconst X0.here hx rfl (hb hby at_20) ?_
    show Steps p.tables e below (s₁.setTop (mkF m 21 #[.val (.long j0), .second, .val (.int u1), .val (.long (((u1 &&& (3 : Int32)).toInt64) - (1 : Int64))), .second, .val (.long ((999999998 : Int64) + (((u1 >>> ((2 : Int32) &&& 31)) &&& (3 : Int32)).toInt64))), .second, .unset, .unset, .unset] [(.int (4 : Int32)), (.int u1)])) t
    refine XS.ishr X0.here hx rfl (hb hby at_21) rfl ?_
    show Steps p.tables e below (s₁.setTop (mkF m 22 #[.val (.long j0), .second, .val (.int u1), .val (.long (((u1 &&& (3 : Int32)).toInt64) - (1 : Int64))), .second, .val (.long ((999999998 : Int64) + (((u1 >>> ((2 : Int32) &&& 31)) &&& (3 : Int32)).toInt64))), .second, .unset, .unset, .unset] [(.int (u1 >>> ((4 : Int32) &&& 31)))])) t
    refine XS.iconst X0.here hx rfl (hb hby at_22) ?_
    show Steps p.tables e below (s₁.setTop (mkF m 23 #[.val (.long j0), .second, .val (.int u1), .val (.long (((u1 &&& (3 : Int32)).toInt64) - (1 : Int64))), .second, .val (.long ((999999998 : Int64) + (((u1 >>> ((2 : Int32) &&& 31)) &&& (3 : Int32)).toInt64))), .second, .unset, .unset, .unset] [(.int (1 : Int32)), (.int (u1 >>> ((4 : Int32) &&& 31)))])) t
    refine XS.iand X0.here hx rfl (hb hby at_23) rfl ?_
    exact k
  refine OFin.go S1 ?_
  have J2 : ∀ t, Steps p.tables e below (s₁.setTop (mkF m 36 #[.val (.long j0), .second, .val (.int u1), .val (.long (((u1 &&& (3 : Int32)).toInt64) - (1 : Int64))), .second, .val (.long ((999999998 : Int64) + (((u1 >>> ((2 : Int32) &&& 31)) &&& (3 : Int32)).toInt64))), .second, .unset, .unset, .unset] [(.long (if (((u1 >>> ((4 : Int32) &&& 31)) &&& (1 : Int32)) = (0 : Int32)) then (-9223372036854775808 : Int64) else (9223372036854775807 : Int64)))])) t → Steps p.tables e below (s₁.setTop (mkF m 24 #[.val (.long j0), .second, .val (.int u1), .val (.long (((u1 &&& (3 : Int32)).toInt64) - (1 : Int64))), .second, .val (.long ((999999998 : Int64) + (((u1 >>> ((2 : Int32) &&& 31)) &&& (3 : Int32)).toInt64))), .second, .unset, .unset, .unset] [(.int ((u1 >>> ((4 : Int32) &&& 31)) &&& (1 : Int32)))])) t := by
    intro t k
    show Steps p.tables e below (s₁.setTop (mkF m 24 #[.val (.long j0), .second, .val (.int u1), .val (.long (((u1 &&& (3 : Int32)).toInt64) - (1 : Int64))), .second, .val (.long ((999999998 : Int64) + (((u1 >>> ((2 : Int32) &&& 31)) &&& (3 : Int32)).toInt64))), .second, .unset, .unset, .unset] [(.int ((u1 >>> ((4 : Int32) &&& 31)) &&& (1 : Int32)))])) t
    by_cases h3 : (((u1 >>> ((4 : Int32) &&& 31)) &&& (1 : Int32)) = (0 : Int32))
    · refine XS.ifYes X0.here hx rfl (pc0 := 24) (pc' := 33) rfl (hb hby at_24) rfl ((if0 _ _).trans (teq h3).1) (by decide) (by decide) ?_
      show Steps p.tables e below (s₁.setTop (mkF m 33 #[.val (.long j0), .second, .val (.int u1), .val (.long (((u1 &&& (3 : Int32)).toInt64) - (1 : Int64))), .second, .val (.long ((999999998 : Int64) + (((u1 >>> ((2 : Int32) &&& 31)) &&& (3 : Int32)).toInt64))), .second, .unset, .unset, .unset] [])) t
      refine X0.ldc2Long hx hown (mvT hZ (hw _ (List.mem_of_getElem? (i := 1) rfl))) (g := (mkF m 33 #[.val (.long j0), .second, .val (.int u1), .val (.long (((u1 &&& (3 : Int32)).toInt64) - (1 : Int64))), .second, .val (.long ((999999998 : Int64) + (((u1 >>> ((2 : Int32) &&& 31)) &&& (3 : Int32)).toInt64))), .second, .unset, .unset, .unset] [])) rfl (hb hby at_33) _ ?_
      show Steps p.tables e below (s₁.setTop (mkF m 36 #[.val (.long j0), .second, .val (.int u1), .val (.long (((u1 &&& (3 : Int32)).toInt64) - (1 : Int64))), .second, .val (.long ((999999998 : Int64) + (((u1 >>> ((2 : Int32) &&& 31)) &&& (3 : Int32)).toInt64))), .second, .unset, .unset, .unset] [(.long (-9223372036854775808 : Int64))])) t
      exact (castTop (congrArg (fun z => (mkF m 36 #[.val (.long j0), .second, .val (.int u1), .val (.long (((u1 &&& (3 : Int32)).toInt64) - (1 : Int64))), .second, .val (.long ((999999998 : Int64) + (((u1 >>> ((2 : Int32) &&& 31)) &&& (3 : Int32)).toInt64))), .second, .unset, .unset, .unset] [(.long z)])) (show (-9223372036854775808 : Int64) = (if (((u1 >>> ((4 : Int32) &&& 31)) &&& (1 : Int32)) = (0 : Int32)) then (-9223372036854775808 : Int64) else (9223372036854775807 : Int64)) by rw [if_pos h3])) k)
    · refine XS.ifNo X0.here hx rfl (hb hby at_24) rfl ((if0 _ _).trans (feq h3).1) ?_
      show Steps p.tables e below (s₁.setTop (mkF m 27 #[.val (.long j0), .second, .val (.int u1), .val (.long (((u1 &&& (3 : Int32)).toInt64) - (1 : Int64))), .second, .val (.long ((999999998 : Int64) + (((u1 >>> ((2 : Int32) &&& 31)) &&& (3 : Int32)).toInt64))), .second, .unset, .unset, .unset] [])) t
      refine X0.ldc2Long hx hown (mvT hZ (hw _ (List.mem_of_getElem? (i := 12) rfl))) (g := (mkF m 27 #[.val (.long j0), .second, .val (.int u1), .val (.long (((u1 &&& (3 : Int32)).toInt64) - (1 : Int64))), .second, .val (.long ((999999998 : Int64) + (((u1 >>> ((2 : Int32) &&& 31)) &&& (3 : Int32)).toInt64))), .second, .unset, .unset, .unset] [])) rfl (hb hby at_27) _ ?_
      show Steps p.tables e below (s₁.setTop (mkF m 30 #[.val (.long j0), .second, .val (.int u1), .val (.long (((u1 &&& (3 : Int32)).toInt64) - (1 : Int64))), .second, .val (.long ((999999998 : Int64) + (((u1 >>> ((2 : Int32) &&& 31)) &&& (3 : Int32)).toInt64))), .second, .unset, .unset, .unset] [(.long (9223372036854775807 : Int64))])) t
      refine XS.goto X0.here hx rfl (pc0 := 30) (pc' := 36) rfl (hb hby at_30) (by decide) (by decide) ?_
      show Steps p.tables e below (s₁.setTop (mkF m 36 #[.val (.long j0), .second, .val (.int u1), .val (.long (((u1 &&& (3 : Int32)).toInt64) - (1 : Int64))), .second, .val (.long ((999999998 : Int64) + (((u1 >>> ((2 : Int32) &&& 31)) &&& (3 : Int32)).toInt64))), .second, .unset, .unset, .unset] [(.long (9223372036854775807 : Int64))])) t
      exact (castTop (congrArg (fun z => (mkF m 36 #[.val (.long j0), .second, .val (.int u1), .val (.long (((u1 &&& (3 : Int32)).toInt64) - (1 : Int64))), .second, .val (.long ((999999998 : Int64) + (((u1 >>> ((2 : Int32) &&& 31)) &&& (3 : Int32)).toInt64))), .second, .unset, .unset, .unset] [(.long z)])) (show (9223372036854775807 : Int64) = (if (((u1 >>> ((4 : Int32) &&& 31)) &&& (1 : Int32)) = (0 : Int32)) then (-9223372036854775808 : Int64) else (9223372036854775807 : Int64)) by rw [if_neg h3])) k)
  refine OFin.go J2 ?_
  have S4 : ∀ t, Steps p.tables e below (s₁.setTop (mkF m 39 #[.val (.long j0), .second, .val (.int u1), .val (.long (((u1 &&& (3 : Int32)).toInt64) - (1 : Int64))), .second, .val (.long ((999999998 : Int64) + (((u1 >>> ((2 : Int32) &&& 31)) &&& (3 : Int32)).toInt64))), .second, .val (.long (if (((u1 >>> ((4 : Int32) &&& 31)) &&& (1 : Int32)) = (0 : Int32)) then (-9223372036854775808 : Int64) else (9223372036854775807 : Int64))), .second, .unset] [(.long j0)])) t → Steps p.tables e below (s₁.setTop (mkF m 36 #[.val (.long j0), .second, .val (.int u1), .val (.long (((u1 &&& (3 : Int32)).toInt64) - (1 : Int64))), .second, .val (.long ((999999998 : Int64) + (((u1 >>> ((2 : Int32) &&& 31)) &&& (3 : Int32)).toInt64))), .second, .unset, .unset, .unset] [(.long (if (((u1 >>> ((4 : Int32) &&& 31)) &&& (1 : Int32)) = (0 : Int32)) then (-9223372036854775808 : Int64) else (9223372036854775807 : Int64)))])) t := by
    intro t k
    show Steps p.tables e below (s₁.setTop (mkF m 36 #[.val (.long j0), .second, .val (.int u1), .val (.long (((u1 &&& (3 : Int32)).toInt64) - (1 : Int64))), .second, .val (.long ((999999998 : Int64) + (((u1 >>> ((2 : Int32) &&& 31)) &&& (3 : Int32)).toInt64))), .second, .unset, .unset, .unset] [(.long (if (((u1 >>> ((4 : Int32) &&& 31)) &&& (1 : Int32)) = (0 : Int32)) then (-9223372036854775808 : Int64) else (9223372036854775807 : Int64)))])) t
    refine XS.lstore X0.here hx rfl (hb hby at_36) rfl (l' := #[.val (.long j0), .second, .val (.int u1), .val (.long (((u1 &&& (3 : Int32)).toInt64) - (1 : Int64))), .second, .val (.long ((999999998 : Int64) + (((u1 >>> ((2 : Int32) &&& 31)) &&& (3 : Int32)).toInt64))), .second, .val (.long (if (((u1 >>> ((4 : Int32) &&& 31)) &&& (1 : Int32)) = (0 : Int32)) then (-9223372036854775808 : Int64) else (9223372036854775807 : Int64))), .second, .unset]) rfl ?_
    show Steps p.tables e below (s₁.setTop (mkF m 38 #[.val (.long j0), .second, .val (.int u1), .val (.long (((u1 &&& (3 : Int32)).toInt64) - (1 : Int64))), .second, .val (.long ((999999998 : Int64) + (((u1 >>> ((2 : Int32) &&& 31)) &&& (3 : Int32)).toInt64))), .second, .val (.long (if (((u1 >>> ((4 : Int32) &&& 31)) &&& (1 : Int32)) = (0 : Int32)) then (-9223372036854775808 : Int64) else (9223372036854775807 : Int64))), .second, .unset] [])) t
    refine XS.lloadN X0.here hx rfl (hb hby at_38) rfl ?_
    exact k
  refine OFin.go S4 ?_
  obtain ⟨_, T5, Lc5, X5, hQ5, st5⟩ := callQ X0 hx hZ (y := (⟨"com/example/tickwright/tickwright/model/Limits", "isShares", "(J)Z"⟩ : MethodName)) hown (hw _ (List.mem_of_getElem? (i := 2) rfl)) (hw _ (List.mem_of_getElem? (i := 3) rfl)) (hw _ (List.mem_of_getElem? (i := 4) rfl)) (hw _ (List.mem_of_getElem? (i := 5) rfl)) (by decide) (argsL := [(.long j0)]) (rest := []) (rm1 l Z a0 hw [] j0 h0 n0 Z0) (W := 0) (by decide) (by decide) e0 (g := (mkF m 39 #[.val (.long j0), .second, .val (.int u1), .val (.long (((u1 &&& (3 : Int32)).toInt64) - (1 : Int64))), .second, .val (.long ((999999998 : Int64) + (((u1 >>> ((2 : Int32) &&& 31)) &&& (3 : Int32)).toInt64))), .second, .val (.long (if (((u1 >>> ((4 : Int32) &&& 31)) &&& (1 : Int32)) = (0 : Int32)) then (-9223372036854775808 : Int64) else (9223372036854775807 : Int64))), .second, .unset] [(.long j0)])) rfl (by rw [hml]; rfl) (lenOf pd_0 rfl) rfl (by show 2 * 0 + _ ≤ _; exact Nat.le_of_eq rfl) (hb hby at_39) (Nat.le_of_ble_eq_true rfl) (Nat.le_of_ble_eq_true rfl)
  obtain ⟨rfl, N5q, e5⟩ := hQ5
  have N5 := Fr.app N0 N5q
  refine OFin.go st5 ?_
  show OFin p e below _ (T5.setTop (mkF m 42 #[.val (.long j0), .second, .val (.int u1), .val (.long (((u1 &&& (3 : Int32)).toInt64) - (1 : Int64))), .second, .val (.long ((999999998 : Int64) + (((u1 >>> ((2 : Int32) &&& 31)) &&& (3 : Int32)).toInt64))), .second, .val (.long (if (((u1 >>> ((4 : Int32) &&& 31)) &&& (1 : Int32)) = (0 : Int32)) then (-9223372036854775808 : Int64) else (9223372036854775807 : Int64))), .second, .unset] [(.int (fShares j0))]))
  have S6 : ∀ t, Steps p.tables e below (T5.setTop (mkF m 43 #[.val (.long j0), .second, .val (.int u1), .val (.long (((u1 &&& (3 : Int32)).toInt64) - (1 : Int64))), .second, .val (.long ((999999998 : Int64) + (((u1 >>> ((2 : Int32) &&& 31)) &&& (3 : Int32)).toInt64))), .second, .val (.long (if (((u1 >>> ((4 : Int32) &&& 31)) &&& (1 : Int32)) = (0 : Int32)) then (-9223372036854775808 : Int64) else (9223372036854775807 : Int64))), .second, .unset] [(.long j0), (.int (fShares j0))])) t → Steps p.tables e below (T5.setTop (mkF m 42 #[.val (.long j0), .second, .val (.int u1), .val (.long (((u1 &&& (3 : Int32)).toInt64) - (1 : Int64))), .second, .val (.long ((999999998 : Int64) + (((u1 >>> ((2 : Int32) &&& 31)) &&& (3 : Int32)).toInt64))), .second, .val (.long (if (((u1 >>> ((4 : Int32) &&& 31)) &&& (1 : Int32)) = (0 : Int32)) then (-9223372036854775808 : Int64) else (9223372036854775807 : Int64))), .second, .unset] [(.int (fShares j0))])) t := by
    intro t k
    show Steps p.tables e below (T5.setTop (mkF m 42 #[.val (.long j0), .second, .val (.int u1), .val (.long (((u1 &&& (3 : Int32)).toInt64) - (1 : Int64))), .second, .val (.long ((999999998 : Int64) + (((u1 >>> ((2 : Int32) &&& 31)) &&& (3 : Int32)).toInt64))), .second, .val (.long (if (((u1 >>> ((4 : Int32) &&& 31)) &&& (1 : Int32)) = (0 : Int32)) then (-9223372036854775808 : Int64) else (9223372036854775807 : Int64))), .second, .unset] [(.int (fShares j0))])) t
    refine XS.lloadN X5.here hx rfl (hb hby at_42) rfl ?_
    exact k
  refine OFin.go S6 ?_
  obtain ⟨_, T7, Lc7, X7, hQ7, st7⟩ := callQ X5 hx hZ (y := (⟨"com/example/tickwright/tickwright/model/LimitsIsSharesPinLaw", "ref", "(J)Z"⟩ : MethodName)) hown (hw _ (List.mem_of_getElem? (i := 7) rfl)) (hw _ (List.mem_of_getElem? (i := 8) rfl)) (hw _ (List.mem_of_getElem? (i := 9) rfl)) (hw _ (List.mem_of_getElem? (i := 10) rfl)) (by decide) (argsL := [(.long j0)]) (rest := [(.int (fShares j0))]) (rm2 l Z a0 hw [] j0 h0 n0 Z0) (W := 1) (by decide) (by decide) e5 (g := (mkF m 43 #[.val (.long j0), .second, .val (.int u1), .val (.long (((u1 &&& (3 : Int32)).toInt64) - (1 : Int64))), .second, .val (.long ((999999998 : Int64) + (((u1 >>> ((2 : Int32) &&& 31)) &&& (3 : Int32)).toInt64))), .second, .val (.long (if (((u1 >>> ((4 : Int32) &&& 31)) &&& (1 : Int32)) = (0 : Int32)) then (-9223372036854775808 : Int64) else (9223372036854775807 : Int64))), .second, .unset] [(.long j0), (.int (fShares j0))])) rfl (by rw [hml]; rfl) (lenOf pd_0 rfl) rfl (by show 2 * 0 + _ ≤ _; exact Nat.le_of_eq rfl) (hb hby at_43) (Nat.le_of_ble_eq_true rfl) (Nat.le_of_ble_eq_true rfl)
  obtain ⟨rfl, N7q, e7⟩ := hQ7
  have N7 := Fr.app N5 N7q
  refine OFin.go st7 ?_
  show OFin p e below _ (T7.setTop (mkF m 46 #[.val (.long j0), .second, .val (.int u1), .val (.long (((u1 &&& (3 : Int32)).toInt64) - (1 : Int64))), .second, .val (.long ((999999998 : Int64) + (((u1 >>> ((2 : Int32) &&& 31)) &&& (3 : Int32)).toInt64))), .second, .val (.long (if (((u1 >>> ((4 : Int32) &&& 31)) &&& (1 : Int32)) = (0 : Int32)) then (-9223372036854775808 : Int64) else (9223372036854775807 : Int64))), .second, .unset] [(.int (fRef j0)), (.int (fShares j0))]))
  have S8 : ∀ t, Steps p.tables e below (T7.setTop (mkF m 49 #[.val (.long j0), .second, .val (.int u1), .val (.long (((u1 &&& (3 : Int32)).toInt64) - (1 : Int64))), .second, .val (.long ((999999998 : Int64) + (((u1 >>> ((2 : Int32) &&& 31)) &&& (3 : Int32)).toInt64))), .second, .val (.long (if (((u1 >>> ((4 : Int32) &&& 31)) &&& (1 : Int32)) = (0 : Int32)) then (-9223372036854775808 : Int64) else (9223372036854775807 : Int64))), .second, .unset] [])) t → Steps p.tables e below (T7.setTop (mkF m 46 #[.val (.long j0), .second, .val (.int u1), .val (.long (((u1 &&& (3 : Int32)).toInt64) - (1 : Int64))), .second, .val (.long ((999999998 : Int64) + (((u1 >>> ((2 : Int32) &&& 31)) &&& (3 : Int32)).toInt64))), .second, .val (.long (if (((u1 >>> ((4 : Int32) &&& 31)) &&& (1 : Int32)) = (0 : Int32)) then (-9223372036854775808 : Int64) else (9223372036854775807 : Int64))), .second, .unset] [(.int (fRef j0)), (.int (fShares j0))])) t := by
    intro t k
    show Steps p.tables e below (T7.setTop (mkF m 46 #[.val (.long j0), .second, .val (.int u1), .val (.long (((u1 &&& (3 : Int32)).toInt64) - (1 : Int64))), .second, .val (.long ((999999998 : Int64) + (((u1 >>> ((2 : Int32) &&& 31)) &&& (3 : Int32)).toInt64))), .second, .val (.long (if (((u1 >>> ((4 : Int32) &&& 31)) &&& (1 : Int32)) = (0 : Int32)) then (-9223372036854775808 : Int64) else (9223372036854775807 : Int64))), .second, .unset] [(.int (fRef j0)), (.int (fShares j0))])) t
    refine XS.icmpNo X7.here hx rfl (hb hby at_46) rfl (teq (own_same _)).2 ?_
    exact k
  refine OFin.go S8 ?_
  have S9 : ∀ t, Steps p.tables e below (T7.setTop (mkF m 58 #[.val (.long j0), .second, .val (.int u1), .val (.long (((u1 &&& (3 : Int32)).toInt64) - (1 : Int64))), .second, .val (.long ((999999998 : Int64) + (((u1 >>> ((2 : Int32) &&& 31)) &&& (3 : Int32)).toInt64))), .second, .val (.long (if (((u1 >>> ((4 : Int32) &&& 31)) &&& (1 : Int32)) = (0 : Int32)) then (-9223372036854775808 : Int64) else (9223372036854775807 : Int64))), .second, .val (.int (1 : Int32))] [(.int (1 : Int32))])) t → Steps p.tables e below (T7.setTop (mkF m 49 #[.val (.long j0), .second, .val (.int u1), .val (.long (((u1 &&& (3 : Int32)).toInt64) - (1 : Int64))), .second, .val (.long ((999999998 : Int64) + (((u1 >>> ((2 : Int32) &&& 31)) &&& (3 : Int32)).toInt64))), .second, .val (.long (if (((u1 >>> ((4 : Int32) &&& 31)) &&& (1 : Int32)) = (0 : Int32)) then (-9223372036854775808 : Int64) else (9223372036854775807 : Int64))), .second, .unset] [])) t := by
    intro t k
    show Steps p.tables e below (T7.setTop (mkF m 49 #[.val (.long j0), .second, .val (.int u1), .val (.long (((u1 &&& (3 : Int32)).toInt64) - (1 : Int64))), .second, .val (.long ((999999998 : Int64) + (((u1 >>> ((2 : Int32) &&& 31)) &&& (3 : Int32)).toInt64))), .second, .val (.long (if (((u1 >>> ((4 : Int32) &&& 31)) &&& (1 : Int32)) = (0 : Int32)) then (-9223372036854775808 : Int64) else (9223372036854775807 : Int64))), .second, .unset] [])) t
    refine XS.iconst X7.here hx rfl (hb hby at_49) ?_
    show Steps p.tables e below (T7.setTop (mkF m 50 #[.val (.long j0), .second, .val (.int u1), .val (.long (((u1 &&& (3 : Int32)).toInt64) - (1 : Int64))), .second, .val (.long ((999999998 : Int64) + (((u1 >>> ((2 : Int32) &&& 31)) &&& (3 : Int32)).toInt64))), .second, .val (.long (if (((u1 >>> ((4 : Int32) &&& 31)) &&& (1 : Int32)) = (0 : Int32)) then (-9223372036854775808 : Int64) else (9223372036854775807 : Int64))), .second, .unset] [(.int (1 : Int32))])) t
    refine XS.goto X7.here hx rfl (pc0 := 50) (pc' := 54) rfl (hb hby at_50) (by decide) (by decide) ?_
    show Steps p.tables e below (T7.setTop (mkF m 54 #[.val (.long j0), .second, .val (.int u1), .val (.long (((u1 &&& (3 : Int32)).toInt64) - (1 : Int64))), .second, .val (.long ((999999998 : Int64) + (((u1 >>> ((2 : Int32) &&& 31)) &&& (3 : Int32)).toInt64))), .second, .val (.long (if (((u1 >>> ((4 : Int32) &&& 31)) &&& (1 : Int32)) = (0 : Int32)) then (-9223372036854775808 : Int64) else (9223372036854775807 : Int64))), .second, .unset] [(.int (1 : Int32))])) t
    refine XS.istore X7.here hx rfl (hb hby at_54) rfl (l' := #[.val (.long j0), .second, .val (.int u1), .val (.long (((u1 &&& (3 : Int32)).toInt64) - (1 : Int64))), .second, .val (.long ((999999998 : Int64) + (((u1 >>> ((2 : Int32) &&& 31)) &&& (3 : Int32)).toInt64))), .second, .val (.long (if (((u1 >>> ((4 : Int32) &&& 31)) &&& (1 : Int32)) = (0 : Int32)) then (-9223372036854775808 : Int64) else (9223372036854775807 : Int64))), .second, .val (.int (1 : Int32))]) rfl ?_
    show Steps p.tables e below (T7.setTop (mkF m 56 #[.val (.long j0), .second, .val (.int u1), .val (.long (((u1 &&& (3 : Int32)).toInt64) - (1 : Int64))), .second, .val (.long ((999999998 : Int64) + (((u1 >>> ((2 : Int32) &&& 31)) &&& (3 : Int32)).toInt64))), .second, .val (.long (if (((u1 >>> ((4 : Int32) &&& 31)) &&& (1 : Int32)) = (0 : Int32)) then (-9223372036854775808 : Int64) else (9223372036854775807 : Int64))), .second, .val (.int (1 : Int32))] [])) t
    refine XS.iload X7.here hx rfl (hb hby at_56) rfl ?_
    exact k
  refine OFin.go S9 ?_
  have S10 : ∀ t, Steps p.tables e below (T7.setTop (mkF m 61 #[.val (.long j0), .second, .val (.int u1), .val (.long (((u1 &&& (3 : Int32)).toInt64) - (1 : Int64))), .second, .val (.long ((999999998 : Int64) + (((u1 >>> ((2 : Int32) &&& 31)) &&& (3 : Int32)).toInt64))), .second, .val (.long (if (((u1 >>> ((4 : Int32) &&& 31)) &&& (1 : Int32)) = (0 : Int32)) then (-9223372036854775808 : Int64) else (9223372036854775807 : Int64))), .second, .val (.int (1 : Int32))] [])) t → Steps p.tables e below (T7.setTop (mkF m 58 #[.val (.long j0), .second, .val (.int u1), .val (.long (((u1 &&& (3 : Int32)).toInt64) - (1 : Int64))), .second, .val (.long ((999999998 : Int64) + (((u1 >>> ((2 : Int32) &&& 31)) &&& (3 : Int32)).toInt64))), .second, .val (.long (if (((u1 >>> ((4 : Int32) &&& 31)) &&& (1 : Int32)) = (0 : Int32)) then (-9223372036854775808 : Int64) else (9223372036854775807 : Int64))), .second, .val (.int (1 : Int32))] [(.int (1 : Int32))])) t := by
    intro t k
    show Steps p.tables e below (T7.setTop (mkF m 58 #[.val (.long j0), .second, .val (.int u1), .val (.long (((u1 &&& (3 : Int32)).toInt64) - (1 : Int64))), .second, .val (.long ((999999998 : Int64) + (((u1 >>> ((2 : Int32) &&& 31)) &&& (3 : Int32)).toInt64))), .second, .val (.long (if (((u1 >>> ((4 : Int32) &&& 31)) &&& (1 : Int32)) = (0 : Int32)) then (-9223372036854775808 : Int64) else (9223372036854775807 : Int64))), .second, .val (.int (1 : Int32))] [(.int (1 : Int32))])) t
    refine XS.ifNo X7.here hx rfl (hb hby at_58) rfl ((if0 _ _).trans (feq (by decide)).1) ?_
    exact k
  refine OFin.go S10 ?_
  have S11 : ∀ t, Steps p.tables e below (T7.setTop (mkF m 62 #[.val (.long j0), .second, .val (.int u1), .val (.long (((u1 &&& (3 : Int32)).toInt64) - (1 : Int64))), .second, .val (.long ((999999998 : Int64) + (((u1 >>> ((2 : Int32) &&& 31)) &&& (3 : Int32)).toInt64))), .second, .val (.long (if (((u1 >>> ((4 : Int32) &&& 31)) &&& (1 : Int32)) = (0 : Int32)) then (-9223372036854775808 : Int64) else (9223372036854775807 : Int64))), .second, .val (.int (1 : Int32))] [(.long (((u1 &&& (3 : Int32)).toInt64) - (1 : Int64)))])) t → Steps p.tables e below (T7.setTop (mkF m 61 #[.val (.long j0), .second, .val (.int u1), .val (.long (((u1 &&& (3 : Int32)).toInt64) - (1 : Int64))), .second, .val (.long ((999999998 : Int64) + (((u1 >>> ((2 : Int32) &&& 31)) &&& (3 : Int32)).toInt64))), .second, .val (.long (if (((u1 >>> ((4 : Int32) &&& 31)) &&& (1 : Int32)) = (0 : Int32)) then (-9223372036854775808 : Int64) else (9223372036854775807 : Int64))), .second, .val (.int (1 : Int32))] [])) t := by
    intro t k
    show Steps p.tables e below (T7.setTop (mkF m 61 #[.val (.long j0), .second, .val (.int u1), .val (.long (((u1 &&& (3 : Int32)).toInt64) - (1 : Int64))), .second, .val (.long ((999999998 : Int64) + (((u1 >>> ((2 : Int32) &&& 31)) &&& (3 : Int32)).toInt64))), .second, .val (.long (if (((u1 >>> ((4 : Int32) &&& 31)) &&& (1 : Int32)) = (0 : Int32)) then (-9223372036854775808 : Int64) else (9223372036854775807 : Int64))), .second, .val (.int (1 : Int32))] [])) t
    refine XS.lloadN X7.here hx rfl (hb hby at_61) rfl ?_
    exact k
  refine OFin.go S11 ?_
  obtain ⟨_, T12, Lc12, X12, hQ12, st12⟩ := callQ X7 hx hZ (y := (⟨"com/example/tickwright/tickwright/model/Limits", "isShares", "(J)Z"⟩ : MethodName)) hown (hw _ (List.mem_of_getElem? (i := 2) rfl)) (hw _ (List.mem_of_getElem? (i := 3) rfl)) (hw _ (List.mem_of_getElem? (i := 4) rfl)) (hw _ (List.mem_of_getElem? (i := 5) rfl)) (by decide) (argsL := [(.long (((u1 &&& (3 : Int32)).toInt64) - (1 : Int64)))]) (rest := []) (rm1 l Z a0 hw [] (((u1 &&& (3 : Int32)).toInt64) - (1 : Int64)) h0 n0 Z0) (W := 0) (by decide) (by decide) e7 (g := (mkF m 62 #[.val (.long j0), .second, .val (.int u1), .val (.long (((u1 &&& (3 : Int32)).toInt64) - (1 : Int64))), .second, .val (.long ((999999998 : Int64) + (((u1 >>> ((2 : Int32) &&& 31)) &&& (3 : Int32)).toInt64))), .second, .val (.long (if (((u1 >>> ((4 : Int32) &&& 31)) &&& (1 : Int32)) = (0 : Int32)) then (-9223372036854775808 : Int64) else (9223372036854775807 : Int64))), .second, .val (.int (1 : Int32))] [(.long (((u1 &&& (3 : Int32)).toInt64) - (1 : Int64)))])) rfl (by rw [hml]; rfl) (lenOf pd_0 rfl) rfl (by show 2 * 0 + _ ≤ _; exact Nat.le_of_eq rfl) (hb hby at_62) (Nat.le_of_ble_eq_true rfl) (Nat.le_of_ble_eq_true rfl)
  obtain ⟨rfl, N12q, e12⟩ := hQ12
  have N12 := Fr.app N7 N12q
  refine OFin.go st12 ?_
  show OFin p e below _ (T12.setTop (mkF m 65 #[.val (.long j0), .second, .val (.int u1), .val (.long (((u1 &&& (3 : Int32)).toInt64) - (1 : Int64))), .second, .val (.long ((999999998 : Int64) + (((u1 >>> ((2 : Int32) &&& 31)) &&& (3 : Int32)).toInt64))), .second, .val (.long (if (((u1 >>> ((4 : Int32) &&& 31)) &&& (1 : Int32)) = (0 : Int32)) then (-9223372036854775808 : Int64) else (9223372036854775807 : Int64))), .second, .val (.int (1 : Int32))] [(.int (fShares (((u1 &&& (3 : Int32)).toInt64) - (1 : Int64))))]))
  have S13 : ∀ t, Steps p.tables e below (T12.setTop (mkF m 66 #[.val (.long j0), .second, .val (.int u1), .val (.long (((u1 &&& (3 : Int32)).toInt64) - (1 : Int64))), .second, .val (.long ((999999998 : Int64) + (((u1 >>> ((2 : Int32) &&& 31)) &&& (3 : Int32)).toInt64))), .second, .val (.long (if (((u1 >>> ((4 : Int32) &&& 31)) &&& (1 : Int32)) = (0 : Int32)) then (-9223372036854775808 : Int64) else (9223372036854775807 : Int64))), .second, .val (.int (1 : Int32))] [(.long (((u1 &&& (3 : Int32)).toInt64) - (1 : Int64))), (.int (fShares (((u1 &&& (3 : Int32)).toInt64) - (1 : Int64))))])) t → Steps p.tables e below (T12.setTop (mkF m 65 #[.val (.long j0), .second, .val (.int u1), .val (.long (((u1 &&& (3 : Int32)).toInt64) - (1 : Int64))), .second, .val (.long ((999999998 : Int64) + (((u1 >>> ((2 : Int32) &&& 31)) &&& (3 : Int32)).toInt64))), .second, .val (.long (if (((u1 >>> ((4 : Int32) &&& 31)) &&& (1 : Int32)) = (0 : Int32)) then (-9223372036854775808 : Int64) else (9223372036854775807 : Int64))), .second, .val (.int (1 : Int32))] [(.int (fShares (((u1 &&& (3 : Int32)).toInt64) - (1 : Int64))))])) t := by
    intro t k
    show Steps p.tables e below (T12.setTop (mkF m 65 #[.val (.long j0), .second, .val (.int u1), .val (.long (((u1 &&& (3 : Int32)).toInt64) - (1 : Int64))), .second, .val (.long ((999999998 : Int64) + (((u1 >>> ((2 : Int32) &&& 31)) &&& (3 : Int32)).toInt64))), .second, .val (.long (if (((u1 >>> ((4 : Int32) &&& 31)) &&& (1 : Int32)) = (0 : Int32)) then (-9223372036854775808 : Int64) else (9223372036854775807 : Int64))), .second, .val (.int (1 : Int32))] [(.int (fShares (((u1 &&& (3 : Int32)).toInt64) - (1 : Int64))))])) t
    refine XS.lloadN X12.here hx rfl (hb hby at_65) rfl ?_
    exact k
  refine OFin.go S13 ?_
  obtain ⟨_, T14, Lc14, X14, hQ14, st14⟩ := callQ X12 hx hZ (y := (⟨"com/example/tickwright/tickwright/model/LimitsIsSharesPinLaw", "ref", "(J)Z"⟩ : MethodName)) hown (hw _ (List.mem_of_getElem? (i := 7) rfl)) (hw _ (List.mem_of_getElem? (i := 8) rfl)) (hw _ (List.mem_of_getElem? (i := 9) rfl)) (hw _ (List.mem_of_getElem? (i := 10) rfl)) (by decide) (argsL := [(.long (((u1 &&& (3 : Int32)).toInt64) - (1 : Int64)))]) (rest := [(.int (fShares (((u1 &&& (3 : Int32)).toInt64) - (1 : Int64))))]) (rm2 l Z a0 hw [] (((u1 &&& (3 : Int32)).toInt64) - (1 : Int64)) h0 n0 Z0) (W := 1) (by decide) (by decide) e12 (g := (mkF m 66 #[.val (.long j0), .second, .val (.int u1), .val (.long (((u1 &&& (3 : Int32)).toInt64) - (1 : Int64))), .second, .val (.long ((999999998 : Int64) + (((u1 >>> ((2 : Int32) &&& 31)) &&& (3 : Int32)).toInt64))), .second, .val (.long (if (((u1 >>> ((4 : Int32) &&& 31)) &&& (1 : Int32)) = (0 : Int32)) then (-9223372036854775808 : Int64) else (9223372036854775807 : Int64))), .second, .val (.int (1 : Int32))] [(.long (((u1 &&& (3 : Int32)).toInt64) - (1 : Int64))), (.int (fShares (((u1 &&& (3 : Int32)).toInt64) - (1 : Int64))))])) rfl (by rw [hml]; rfl) (lenOf pd_0 rfl) rfl (by show 2 * 0 + _ ≤ _; exact Nat.le_of_eq rfl) (hb hby at_66) (Nat.le_of_ble_eq_true rfl) (Nat.le_of_ble_eq_true rfl)
  obtain ⟨rfl, N14q, e14⟩ := hQ14
  have N14 := Fr.app N12 N14q
  refine OFin.go st14 ?_
  show OFin p e below _ (T14.setTop (mkF m 69 #[.val (.long j0), .second, .val (.int u1), .val (.long (((u1 &&& (3 : Int32)).toInt64) - (1 : Int64))), .second, .val (.long ((999999998 : Int64) + (((u1 >>> ((2 : Int32) &&& 31)) &&& (3 : Int32)).toInt64))), .second, .val (.long (if (((u1 >>> ((4 : Int32) &&& 31)) &&& (1 : Int32)) = (0 : Int32)) then (-9223372036854775808 : Int64) else (9223372036854775807 : Int64))), .second, .val (.int (1 : Int32))] [(.int (fRef (((u1 &&& (3 : Int32)).toInt64) - (1 : Int64)))), (.int (fShares (((u1 &&& (3 : Int32)).toInt64) - (1 : Int64))))]))
  have S15 : ∀ t, Steps p.tables e below (T14.setTop (mkF m 72 #[.val (.long j0), .second, .val (.int u1), .val (.long (((u1 &&& (3 : Int32)).toInt64) - (1 : Int64))), .second, .val (.long ((999999998 : Int64) + (((u1 >>> ((2 : Int32) &&& 31)) &&& (3 : Int32)).toInt64))), .second, .val (.long (if (((u1 >>> ((4 : Int32) &&& 31)) &&& (1 : Int32)) = (0 : Int32)) then (-9223372036854775808 : Int64) else (9223372036854775807 : Int64))), .second, .val (.int (1 : Int32))] [])) t → Steps p.tables e below (T14.setTop (mkF m 69 #[.val (.long j0), .second, .val (.int u1), .val (.long (((u1 &&& (3 : Int32)).toInt64) - (1 : Int64))), .second, .val (.long ((999999998 : Int64) + (((u1 >>> ((2 : Int32) &&& 31)) &&& (3 : Int32)).toInt64))), .second, .val (.long (if (((u1 >>> ((4 : Int32) &&& 31)) &&& (1 : Int32)) = (0 : Int32)) then (-9223372036854775808 : Int64) else (9223372036854775807 : Int64))), .second, .val (.int (1 : Int32))] [(.int (fRef (((u1 &&& (3 : Int32)).toInt64) - (1 : Int64)))), (.int (fShares (((u1 &&& (3 : Int32)).toInt64) - (1 : Int64))))])) t := by
    intro t k
    show Steps p.tables e below (T14.setTop (mkF m 69 #[.val (.long j0), .second, .val (.int u1), .val (.long (((u1 &&& (3 : Int32)).toInt64) - (1 : Int64))), .second, .val (.long ((999999998 : Int64) + (((u1 >>> ((2 : Int32) &&& 31)) &&& (3 : Int32)).toInt64))), .second, .val (.long (if (((u1 >>> ((4 : Int32) &&& 31)) &&& (1 : Int32)) = (0 : Int32)) then (-9223372036854775808 : Int64) else (9223372036854775807 : Int64))), .second, .val (.int (1 : Int32))] [(.int (fRef (((u1 &&& (3 : Int32)).toInt64) - (1 : Int64)))), (.int (fShares (((u1 &&& (3 : Int32)).toInt64) - (1 : Int64))))])) t
    refine XS.icmpNo X14.here hx rfl (hb hby at_69) rfl (teq (own_same _)).2 ?_
    exact k
  refine OFin.go S15 ?_
  have S16 : ∀ t, Steps p.tables e below (T14.setTop (mkF m 81 #[.val (.long j0), .second, .val (.int u1), .val (.long (((u1 &&& (3 : Int32)).toInt64) - (1 : Int64))), .second, .val (.long ((999999998 : Int64) + (((u1 >>> ((2 : Int32) &&& 31)) &&& (3 : Int32)).toInt64))), .second, .val (.long (if (((u1 >>> ((4 : Int32) &&& 31)) &&& (1 : Int32)) = (0 : Int32)) then (-9223372036854775808 : Int64) else (9223372036854775807 : Int64))), .second, .val (.int (1 : Int32))] [(.int (1 : Int32))])) t → Steps p.tables e below (T14.setTop (mkF m 72 #[.val (.long j0), .second, .val (.int u1), .val (.long (((u1 &&& (3 : Int32)).toInt64) - (1 : Int64))), .second, .val (.long ((999999998 : Int64) + (((u1 >>> ((2 : Int32) &&& 31)) &&& (3 : Int32)).toInt64))), .second, .val (.long (if (((u1 >>> ((4 : Int32) &&& 31)) &&& (1 : Int32)) = (0 : Int32)) then (-9223372036854775808 : Int64) else (9223372036854775807 : Int64))), .second, .val (.int (1 : Int32))] [])) t := by
    intro t k
    show Steps p.tables e below (T14.setTop (mkF m 72 #[.val (.long j0), .second, .val (.int u1), .val (.long (((u1 &&& (3 : Int32)).toInt64) - (1 : Int64))), .second, .val (.long ((999999998 : Int64) + (((u1 >>> ((2 : Int32) &&& 31)) &&& (3 : Int32)).toInt64))), .second, .val (.long (if (((u1 >>> ((4 : Int32) &&& 31)) &&& (1 : Int32)) = (0 : Int32)) then (-9223372036854775808 : Int64) else (9223372036854775807 : Int64))), .second, .val (.int (1 : Int32))] [])) t
    refine XS.iconst X14.here hx rfl (hb hby at_72) ?_
    show Steps p.tables e below (T14.setTop (mkF m 73 #[.val (.long j0), .second, .val (.int u1), .val (.long (((u1 &&& (3 : Int32)).toInt64) - (1 : Int64))), .second, .val (.long ((999999998 : Int64) + (((u1 >>> ((2 : Int32) &&& 31)) &&& (3 : Int32)).toInt64))), .second, .val (.long (if (((u1 >>> ((4 : Int32) &&& 31)) &&& (1 : Int32)) = (0 : Int32)) then (-9223372036854775808 : Int64) else (9223372036854775807 : Int64))), .second, .val (.int (1 : Int32))] [(.int (1 : Int32))])) t
    refine XS.goto X14.here hx rfl (pc0 := 73) (pc' := 77) rfl (hb hby at_73) (by decide) (by decide) ?_
    show Steps p.tables e below (T14.setTop (mkF m 77 #[.val (.long j0), .second, .val (.int u1), .val (.long (((u1 &&& (3 : Int32)).toInt64) - (1 : Int64))), .second, .val (.long ((999999998 : Int64) + (((u1 >>> ((2 : Int32) &&& 31)) &&& (3 : Int32)).toInt64))), .second, .val (.long (if (((u1 >>> ((4 : Int32) &&& 31)) &&& (1 : Int32)) = (0 : Int32)) then (-9223372036854775808 : Int64) else (9223372036854775807 : Int64))), .second, .val (.int (1 : Int32))] [(.int (1 : Int32))])) t
    refine XS.istore X14.here hx rfl (hb hby at_77) rfl (l' := #[.val (.long j0), .second, .val (.int u1), .val (.long (((u1 &&& (3 : Int32)).toInt64) - (1 : Int64))), .second, .val (.long ((999999998 : Int64) + (((u1 >>> ((2 : Int32) &&& 31)) &&& (3 : Int32)).toInt64))), .second, .val (.long (if (((u1 >>> ((4 : Int32) &&& 31)) &&& (1 : Int32)) = (0 : Int32)) then (-9223372036854775808 : Int64) else (9223372036854775807 : Int64))), .second, .val (.int (1 : Int32))]) rfl ?_
    show Steps p.tables e below (T14.setTop (mkF m 79 #[.val (.long j0), .second, .val (.int u1), .val (.long (((u1 &&& (3 : Int32)).toInt64) - (1 : Int64))), .second, .val (.long ((999999998 : Int64) + (((u1 >>> ((2 : Int32) &&& 31)) &&& (3 : Int32)).toInt64))), .second, .val (.long (if (((u1 >>> ((4 : Int32) &&& 31)) &&& (1 : Int32)) = (0 : Int32)) then (-9223372036854775808 : Int64) else (9223372036854775807 : Int64))), .second, .val (.int (1 : Int32))] [])) t
    refine XS.iload X14.here hx rfl (hb hby at_79) rfl ?_
    exact k
  refine OFin.go S16 ?_
  have S17 : ∀ t, Steps p.tables e below (T14.setTop (mkF m 84 #[.val (.long j0), .second, .val (.int u1), .val (.long (((u1 &&& (3 : Int32)).toInt64) - (1 : Int64))), .second, .val (.long ((999999998 : Int64) + (((u1 >>> ((2 : Int32) &&& 31)) &&& (3 : Int32)).toInt64))), .second, .val (.long (if (((u1 >>> ((4 : Int32) &&& 31)) &&& (1 : Int32)) = (0 : Int32)) then (-9223372036854775808 : Int64) else (9223372036854775807 : Int64))), .second, .val (.int (1 : Int32))] [])) t → Steps p.tables e below (T14.setTop (mkF m 81 #[.val (.long j0), .second, .val (.int u1), .val (.long (((u1 &&& (3 : Int32)).toInt64) - (1 : Int64))), .second, .val (.long ((999999998 : Int64) + (((u1 >>> ((2 : Int32) &&& 31)) &&& (3 : Int32)).toInt64))), .second, .val (.long (if (((u1 >>> ((4 : Int32) &&& 31)) &&& (1 : Int32)) = (0 : Int32)) then (-9223372036854775808 : Int64) else (9223372036854775807 : Int64))), .second, .val (.int (1 : Int32))] [(.int (1 : Int32))])) t := by
    intro t k
    show Steps p.tables e below (T14.setTop (mkF m 81 #[.val (.long j0), .second, .val (.int u1), .val (.long (((u1 &&& (3 : Int32)).toInt64) - (1 : Int64))), .second, .val (.long ((999999998 : Int64) + (((u1 >>> ((2 : Int32) &&& 31)) &&& (3 : Int32)).toInt64))), .second, .val (.long (if (((u1 >>> ((4 : Int32) &&& 31)) &&& (1 : Int32)) = (0 : Int32)) then (-9223372036854775808 : Int64) else (9223372036854775807 : Int64))), .second, .val (.int (1 : Int32))] [(.int (1 : Int32))])) t
    refine XS.ifNo X14.here hx rfl (hb hby at_81) rfl ((if0 _ _).trans (feq (by decide)).1) ?_
    exact k
  refine OFin.go S17 ?_
  have S18 : ∀ t, Steps p.tables e below (T14.setTop (mkF m 86 #[.val (.long j0), .second, .val (.int u1), .val (.long (((u1 &&& (3 : Int32)).toInt64) - (1 : Int64))), .second, .val (.long ((999999998 : Int64) + (((u1 >>> ((2 : Int32) &&& 31)) &&& (3 : Int32)).toInt64))), .second, .val (.long (if (((u1 >>> ((4 : Int32) &&& 31)) &&& (1 : Int32)) = (0 : Int32)) then (-9223372036854775808 : Int64) else (9223372036854775807 : Int64))), .second, .val (.int (1 : Int32))] [(.long ((999999998 : Int64) + (((u1 >>> ((2 : Int32) &&& 31)) &&& (3 : Int32)).toInt64)))])) t → Steps p.tables e below (T14.setTop (mkF m 84 #[.val (.long j0), .second, .val (.int u1), .val (.long (((u1 &&& (3 : Int32)).toInt64) - (1 : Int64))), .second, .val (.long ((999999998 : Int64) + (((u1 >>> ((2 : Int32) &&& 31)) &&& (3 : Int32)).toInt64))), .second, .val (.long (if (((u1 >>> ((4 : Int32) &&& 31)) &&& (1 : Int32)) = (0 : Int32)) then (-9223372036854775808 : Int64) else (9223372036854775807 : Int64))), .second, .val (.int (1 : Int32))] [])) t := by
    intro t k
    show Steps p.tables e below (T14.setTop (mkF m 84 #[.val (.long j0), .second, .val (.int u1), .val (.long (((u1 &&& (3 : Int32)).toInt64) - (1 : Int64))), .second, .val (.long ((999999998 : Int64) + (((u1 >>> ((2 : Int32) &&& 31)) &&& (3 : Int32)).toInt64))), .second, .val (.long (if (((u1 >>> ((4 : Int32) &&& 31)) &&& (1 : Int32)) = (0 : Int32)) then (-9223372036854775808 : Int64) else (9223372036854775807 : Int64))), .second, .val (.int (1 : Int32))] [])) t
    refine XS.lload X14.here hx rfl (hb hby at_84) rfl ?_
    exact k
  refine OFin.go S18 ?_
  obtain ⟨_, T19, Lc19, X19, hQ19, st19⟩ := callQ X14 hx hZ (y := (⟨"com/example/tickwright/tickwright/model/Limits", "isShares", "(J)Z"⟩ : MethodName)) hown (hw _ (List.mem_of_getElem? (i := 2) rfl)) (hw _ (List.mem_of_getElem? (i := 3) rfl)) (hw _ (List.mem_of_getElem? (i := 4) rfl)) (hw _ (List.mem_of_getElem? (i := 5) rfl)) (by decide) (argsL := [(.long ((999999998 : Int64) + (((u1 >>> ((2 : Int32) &&& 31)) &&& (3 : Int32)).toInt64)))]) (rest := []) (rm1 l Z a0 hw [] ((999999998 : Int64) + (((u1 >>> ((2 : Int32) &&& 31)) &&& (3 : Int32)).toInt64)) h0 n0 Z0) (W := 0) (by decide) (by decide) e14 (g := (mkF m 86 #[.val (.long j0), .second, .val (.int u1), .val (.long (((u1 &&& (3 : Int32)).toInt64) - (1 : Int64))), .second, .val (.long ((999999998 : Int64) + (((u1 >>> ((2 : Int32) &&& 31)) &&& (3 : Int32)).toInt64))), .second, .val (.long (if (((u1 >>> ((4 : Int32) &&& 31)) &&& (1 : Int32)) = (0 : Int32)) then (-9223372036854775808 : Int64) else (9223372036854775807 : Int64))), .second, .val (.int (1 : Int32))] [(.long ((999999998 : Int64) + (((u1 >>> ((2 : Int32) &&& 31)) &&& (3 : Int32)).toInt64)))])) rfl (by rw [hml]; rfl) (lenOf pd_0 rfl) rfl (by show 2 * 0 + _ ≤ _; exact Nat.le_of_eq rfl) (hb hby at_86) (Nat.le_of_ble_eq_true rfl) (Nat.le_of_ble_eq_true rfl)
  obtain ⟨rfl, N19q, e19⟩ := hQ19
  have N19 := Fr.app N14 N19q
  refine OFin.go st19 ?_
  show OFin p e below _ (T19.setTop (mkF m 89 #[.val (.long j0), .second, .val (.int u1), .val (.long (((u1 &&& (3 : Int32)).toInt64) - (1 : Int64))), .second, .val (.long ((999999998 : Int64) + (((u1 >>> ((2 : Int32) &&& 31)) &&& (3 : Int32)).toInt64))), .second, .val (.long (if (((u1 >>> ((4 : Int32) &&& 31)) &&& (1 : Int32)) = (0 : Int32)) then (-9223372036854775808 : Int64) else (9223372036854775807 : Int64))), .second, .val (.int (1 : Int32))] [(.int (fShares ((999999998 : Int64) + (((u1 >>> ((2 : Int32) &&& 31)) &&& (3 : Int32)).toInt64))))]))
  have S20 : ∀ t, Steps p.tables e below (T19.setTop (mkF m 91 #[.val (.long j0), .second, .val (.int u1), .val (.long (((u1 &&& (3 : Int32)).toInt64) - (1 : Int64))), .second, .val (.long ((999999998 : Int64) + (((u1 >>> ((2 : Int32) &&& 31)) &&& (3 : Int32)).toInt64))), .second, .val (.long (if (((u1 >>> ((4 : Int32) &&& 31)) &&& (1 : Int32)) = (0 : Int32)) then (-9223372036854775808 : Int64) else (9223372036854775807 : Int64))), .second, .val (.int (1 : Int32))] [(.long ((999999998 : Int64) + (((u1 >>> ((2 : Int32) &&& 31)) &&& (3 : Int32)).toInt64))), (.int (fShares ((999999998 : Int64) + (((u1 >>> ((2 : Int32) &&& 31)) &&& (3 : Int32)).toInt64))))])) t → Steps p.tables e below (T19.setTop (mkF m 89 #[.val (.long j0), .second, .val (.int u1), .val (.long (((u1 &&& (3 : Int32)).toInt64) - (1 : Int64))), .second, .val (.long ((999999998 : Int64) + (((u1 >>> ((2 : Int32) &&& 31)) &&& (3 : Int32)).toInt64))), .second, .val (.long (if (((u1 >>> ((4 : Int32) &&& 31)) &&& (1 : Int32)) = (0 : Int32)) then (-9223372036854775808 : Int64) else (9223372036854775807 : Int64))), .second, .val (.int (1 : Int32))] [(.int (fShares ((999999998 : Int64) + (((u1 >>> ((2 : Int32) &&& 31)) &&& (3 : Int32)).toInt64))))])) t := by
    intro t k
    show Steps p.tables e below (T19.setTop (mkF m 89 #[.val (.long j0), .second, .val (.int u1), .val (.long (((u1 &&& (3 : Int32)).toInt64) - (1 : Int64))), .second, .val (.long ((999999998 : Int64) + (((u1 >>> ((2 : Int32) &&& 31)) &&& (3 : Int32)).toInt64))), .second, .val (.long (if (((u1 >>> ((4 : Int32) &&& 31)) &&& (1 : Int32)) = (0 : Int32)) then (-9223372036854775808 : Int64) else (9223372036854775807 : Int64))), .second, .val (.int (1 : Int32))] [(.int (fShares ((999999998 : Int64) + (((u1 >>> ((2 : Int32) &&& 31)) &&& (3 : Int32)).toInt64))))])) t
    refine XS.lload X19.here hx rfl (hb hby at_89) rfl ?_
    exact k
  refine OFin.go S20 ?_
  obtain ⟨_, T21, Lc21, X21, hQ21, st21⟩ := callQ X19 hx hZ (y := (⟨"com/example/tickwright/tickwright/model/LimitsIsSharesPinLaw", "ref", "(J)Z"⟩ : MethodName)) hown (hw _ (List.mem_of_getElem? (i := 7) rfl)) (hw _ (List.mem_of_getElem? (i := 8) rfl)) (hw _ (List.mem_of_getElem? (i := 9) rfl)) (hw _ (List.mem_of_getElem? (i := 10) rfl)) (by decide) (argsL := [(.long ((999999998 : Int64) + (((u1 >>> ((2 : Int32) &&& 31)) &&& (3 : Int32)).toInt64)))]) (rest := [(.int (fShares ((999999998 : Int64) + (((u1 >>> ((2 : Int32) &&& 31)) &&& (3 : Int32)).toInt64))))]) (rm2 l Z a0 hw [] ((999999998 : Int64) + (((u1 >>> ((2 : Int32) &&& 31)) &&& (3 : Int32)).toInt64)) h0 n0 Z0) (W := 1) (by decide) (by decide) e19 (g := (mkF m 91 #[.val (.long j0), .second, .val (.int u1), .val (.long (((u1 &&& (3 : Int32)).toInt64) - (1 : Int64))), .second, .val (.long ((999999998 : Int64) + (((u1 >>> ((2 : Int32) &&& 31)) &&& (3 : Int32)).toInt64))), .second, .val (.long (if (((u1 >>> ((4 : Int32) &&& 31)) &&& (1 : Int32)) = (0 : Int32)) then (-9223372036854775808 : Int64) else (9223372036854775807 : Int64))), .second, .val (.int (1 : Int32))] [(.long ((999999998 : Int64) + (((u1 >>> ((2 : Int32) &&& 31)) &&& (3 : Int32)).toInt64))), (.int (fShares ((999999998 : Int64) + (((u1 >>> ((2 : Int32) &&& 31)) &&& (3 : Int32)).toInt64))))])) rfl (by rw [hml]; rfl) (lenOf pd_0 rfl) rfl (by show 2 * 0 + _ ≤ _; exact Nat.le_of_eq rfl) (hb hby at_91) (Nat.le_of_ble_eq_true rfl) (Nat.le_of_ble_eq_true rfl)
  obtain ⟨rfl, N21q, e21⟩ := hQ21
  have N21 := Fr.app N19 N21q
  refine OFin.go st21 ?_
  show OFin p e below _ (T21.setTop (mkF m 94 #[.val (.long j0), .second, .val (.int u1), .val (.long (((u1 &&& (3 : Int32)).toInt64) - (1 : Int64))), .second, .val (.long ((999999998 : Int64) + (((u1 >>> ((2 : Int32) &&& 31)) &&& (3 : Int32)).toInt64))), .second, .val (.long (if (((u1 >>> ((4 : Int32) &&& 31)) &&& (1 : Int32)) = (0 : Int32)) then (-9223372036854775808 : Int64) else (9223372036854775807 : Int64))), .second, .val (.int (1 : Int32))] [(.int (fRef ((999999998 : Int64) + (((u1 >>> ((2 : Int32) &&& 31)) &&& (3 : Int32)).toInt64)))), (.int (fShares ((999999998 : Int64) + (((u1 >>> ((2 : Int32) &&& 31)) &&& (3 : Int32)).toInt64))))]))
  have S22 : ∀ t, Steps p.tables e below (T21.setTop (mkF m 97 #[.val (.long j0), .second, .val (.int u1), .val (.long (((u1 &&& (3 : Int32)).toInt64) - (1 : Int64))), .second, .val (.long ((999999998 : Int64) + (((u1 >>> ((2 : Int32) &&& 31)) &&& (3 : Int32)).toInt64))), .second, .val (.long (if (((u1 >>> ((4 : Int32) &&& 31)) &&& (1 : Int32)) = (0 : Int32)) then (-9223372036854775808 : Int64) else (9223372036854775807 : Int64))), .second, .val (.int (1 : Int32))] [])) t → Steps p.tables e below (T21.setTop (mkF m 94 #[.val (.long j0), .second, .val (.int u1), .val (.long (((u1 &&& (3 : Int32)).toInt64) - (1 : Int64))), .second, .val (.long ((999999998 : Int64) + (((u1 >>> ((2 : Int32) &&& 31)) &&& (3 : Int32)).toInt64))), .second, .val (.long (if (((u1 >>> ((4 : Int32) &&& 31)) &&& (1 : Int32)) = (0 : Int32)) then (-9223372036854775808 : Int64) else (9223372036854775807 : Int64))), .second, .val (.int (1 : Int32))] [(.int (fRef ((999999998 : Int64) + (((u1 >>> ((2 : Int32) &&& 31)) &&& (3 : Int32)).toInt64)))), (.int (fShares ((999999998 : Int64) + (((u1 >>> ((2 : Int32) &&& 31)) &&& (3 : Int32)).toInt64))))])) t := by
    intro t k
    show Steps p.tables e below (T21.setTop (mkF m 94 #[.val (.long j0), .second, .val (.int u1), .val (.long (((u1 &&& (3 : Int32)).toInt64) - (1 : Int64))), .second, .val (.long ((999999998 : Int64) + (((u1 >>> ((2 : Int32) &&& 31)) &&& (3 : Int32)).toInt64))), .second, .val (.long (if (((u1 >>> ((4 : Int32) &&& 31)) &&& (1 : Int32)) = (0 : Int32)) then (-9223372036854775808 : Int64) else (9223372036854775807 : Int64))), .second, .val (.int (1 : Int32))] [(.int (fRef ((999999998 : Int64) + (((u1 >>> ((2 : Int32) &&& 31)) &&& (3 : Int32)).toInt64)))), (.int (fShares ((999999998 : Int64) + (((u1 >>> ((2 : Int32) &&& 31)) &&& (3 : Int32)).toInt64))))])) t
    refine XS.icmpNo X21.here hx rfl (hb hby at_94) rfl (teq (own_same _)).2 ?_
    exact k
  refine OFin.go S22 ?_
  have S23 : ∀ t, Steps p.tables e below (T21.setTop (mkF m 106 #[.val (.long j0), .second, .val (.int u1), .val (.long (((u1 &&& (3 : Int32)).toInt64) - (1 : Int64))), .second, .val (.long ((999999998 : Int64) + (((u1 >>> ((2 : Int32) &&& 31)) &&& (3 : Int32)).toInt64))), .second, .val (.long (if (((u1 >>> ((4 : Int32) &&& 31)) &&& (1 : Int32)) = (0 : Int32)) then (-9223372036854775808 : Int64) else (9223372036854775807 : Int64))), .second, .val (.int (1 : Int32))] [(.int (1 : Int32))])) t → Steps p.tables e below (T21.setTop (mkF m 97 #[.val (.long j0), .second, .val (.int u1), .val (.long (((u1 &&& (3 : Int32)).toInt64) - (1 : Int64))), .second, .val (.long ((999999998 : Int64) + (((u1 >>> ((2 : Int32) &&& 31)) &&& (3 : Int32)).toInt64))), .second, .val (.long (if (((u1 >>> ((4 : Int32) &&& 31)) &&& (1 : Int32)) = (0 : Int32)) then (-9223372036854775808 : Int64) else (9223372036854775807 : Int64))), .second, .val (.int (1 : Int32))] [])) t := by
    intro t k
    show Steps p.tables e below (T21.setTop (mkF m 97 #[.val (.long j0), .second, .val (.int u1), .val (.long (((u1 &&& (3 : Int32)).toInt64) - (1 : Int64))), .second, .val (.long ((999999998 : Int64) + (((u1 >>> ((2 : Int32) &&& 31)) &&& (3 : Int32)).toInt64))), .second, .val (.long (if (((u1 >>> ((4 : Int32) &&& 31)) &&& (1 : Int32)) = (0 : Int32)) then (-9223372036854775808 : Int64) else (9223372036854775807 : Int64))), .second, .val (.int (1 : Int32))] [])) t
    refine XS.iconst X21.here hx rfl (hb hby at_97) ?_
    show Steps p.tables e below (T21.setTop (mkF m 98 #[.val (.long j0), .second, .val (.int u1), .val (.long (((u1 &&& (3 : Int32)).toInt64) - (1 : Int64))), .second, .val (.long ((999999998 : Int64) + (((u1 >>> ((2 : Int32) &&& 31)) &&& (3 : Int32)).toInt64))), .second, .val (.long (if (((u1 >>> ((4 : Int32) &&& 31)) &&& (1 : Int32)) = (0 : Int32)) then (-9223372036854775808 : Int64) else (9223372036854775807 : Int64))), .second, .val (.int (1 : Int32))] [(.int (1 : Int32))])) t
    refine XS.goto X21.here hx rfl (pc0 := 98) (pc' := 102) rfl (hb hby at_98) (by decide) (by decide) ?_
    show Steps p.tables e below (T21.setTop (mkF m 102 #[.val (.long j0), .second, .val (.int u1), .val (.long (((u1 &&& (3 : Int32)).toInt64) - (1 : Int64))), .second, .val (.long ((999999998 : Int64) + (((u1 >>> ((2 : Int32) &&& 31)) &&& (3 : Int32)).toInt64))), .second, .val (.long (if (((u1 >>> ((4 : Int32) &&& 31)) &&& (1 : Int32)) = (0 : Int32)) then (-9223372036854775808 : Int64) else (9223372036854775807 : Int64))), .second, .val (.int (1 : Int32))] [(.int (1 : Int32))])) t
    refine XS.istore X21.here hx rfl (hb hby at_102) rfl (l' := #[.val (.long j0), .second, .val (.int u1), .val (.long (((u1 &&& (3 : Int32)).toInt64) - (1 : Int64))), .second, .val (.long ((999999998 : Int64) + (((u1 >>> ((2 : Int32) &&& 31)) &&& (3 : Int32)).toInt64))), .second, .val (.long (if (((u1 >>> ((4 : Int32) &&& 31)) &&& (1 : Int32)) = (0 : Int32)) then (-9223372036854775808 : Int64) else (9223372036854775807 : Int64))), .second, .val (.int (1 : Int32))]) rfl ?_
    show Steps p.tables e below (T21.setTop (mkF m 104 #[.val (.long j0), .second, .val (.int u1), .val (.long (((u1 &&& (3 : Int32)).toInt64) - (1 : Int64))), .second, .val (.long ((999999998 : Int64) + (((u1 >>> ((2 : Int32) &&& 31)) &&& (3 : Int32)).toInt64))), .second, .val (.long (if (((u1 >>> ((4 : Int32) &&& 31)) &&& (1 : Int32)) = (0 : Int32)) then (-9223372036854775808 : Int64) else (9223372036854775807 : Int64))), .second, .val (.int (1 : Int32))] [])) t
    refine XS.iload X21.here hx rfl (hb hby at_104) rfl ?_
    exact k
  refine OFin.go S23 ?_
  have S24 : ∀ t, Steps p.tables e below (T21.setTop (mkF m 109 #[.val (.long j0), .second, .val (.int u1), .val (.long (((u1 &&& (3 : Int32)).toInt64) - (1 : Int64))), .second, .val (.long ((999999998 : Int64) + (((u1 >>> ((2 : Int32) &&& 31)) &&& (3 : Int32)).toInt64))), .second, .val (.long (if (((u1 >>> ((4 : Int32) &&& 31)) &&& (1 : Int32)) = (0 : Int32)) then (-9223372036854775808 : Int64) else (9223372036854775807 : Int64))), .second, .val (.int (1 : Int32))] [])) t → Steps p.tables e below (T21.setTop (mkF m 106 #[.val (.long j0), .second, .val (.int u1), .val (.long (((u1 &&& (3 : Int32)).toInt64) - (1 : Int64))), .second, .val (.long ((999999998 : Int64) + (((u1 >>> ((2 : Int32) &&& 31)) &&& (3 : Int32)).toInt64))), .second, .val (.long (if (((u1 >>> ((4 : Int32) &&& 31)) &&& (1 : Int32)) = (0 : Int32)) then (-9223372036854775808 : Int64) else (9223372036854775807 : Int64))), .second, .val (.int (1 : Int32))] [(.int (1 : Int32))])) t := by
    intro t k
    show Steps p.tables e below (T21.setTop (mkF m 106 #[.val (.long j0), .second, .val (.int u1), .val (.long (((u1 &&& (3 : Int32)).toInt64) - (1 : Int64))), .second, .val (.long ((999999998 : Int64) + (((u1 >>> ((2 : Int32) &&& 31)) &&& (3 : Int32)).toInt64))), .second, .val (.long (if (((u1 >>> ((4 : Int32) &&& 31)) &&& (1 : Int32)) = (0 : Int32)) then (-9223372036854775808 : Int64) else (9223372036854775807 : Int64))), .second, .val (.int (1 : Int32))] [(.int (1 : Int32))])) t
    refine XS.ifNo X21.here hx rfl (hb hby at_106) rfl ((if0 _ _).trans (feq (by decide)).1) ?_
    exact k
  refine OFin.go S24 ?_
  have S25 : ∀ t, Steps p.tables e below (T21.setTop (mkF m 111 #[.val (.long j0), .second, .val (.int u1), .val (.long (((u1 &&& (3 : Int32)).toInt64) - (1 : Int64))), .second, .val (.long ((999999998 : Int64) + (((u1 >>> ((2 : Int32) &&& 31)) &&& (3 : Int32)).toInt64))), .second, .val (.long (if (((u1 >>> ((4 : Int32) &&& 31)) &&& (1 : Int32)) = (0 : Int32)) then (-9223372036854775808 : Int64) else (9223372036854775807 : Int64))), .second, .val (.int (1 : Int32))] [(.long (if (((u1 >>> ((4 : Int32) &&& 31)) &&& (1 : Int32)) = (0 : Int32)) then (-9223372036854775808 : Int64) else (9223372036854775807 : Int64)))])) t → Steps p.tables e below (T21.setTop (mkF m 109 #[.val (.long j0), .second, .val (.int u1), .val (.long (((u1 &&& (3 : Int32)).toInt64) - (1 : Int64))), .second, .val (.long ((999999998 : Int64) + (((u1 >>> ((2 : Int32) &&& 31)) &&& (3 : Int32)).toInt64))), .second, .val (.long (if (((u1 >>> ((4 : Int32) &&& 31)) &&& (1 : Int32)) = (0 : Int32)) then (-9223372036854775808 : Int64) else (9223372036854775807 : Int64))), .second, .val (.int (1 : Int32))] [])) t := by
    intro t k
    show Steps p.tables e below (T21.setTop (mkF m 109 #[.val (.long j0), .second, .val (.int u1), .val (.long (((u1 &&& (3 : Int32)).toInt64) - (1 : Int64))), .second, .val (.long ((999999998 : Int64) + (((u1 >>> ((2 : Int32) &&& 31)) &&& (3 : Int32)).toInt64))), .second, .val (.long (if (((u1 >>> ((4 : Int32) &&& 31)) &&& (1 : Int32)) = (0 : Int32)) then (-9223372036854775808 : Int64) else (9223372036854775807 : Int64))), .second, .val (.int (1 : Int32))] [])) t
    refine XS.lload X21.here hx rfl (hb hby at_109) rfl ?_
    exact k
  refine OFin.go S25 ?_
  obtain ⟨_, T26, Lc26, X26, hQ26, st26⟩ := callQ X21 hx hZ (y := (⟨"com/example/tickwright/tickwright/model/Limits", "isShares", "(J)Z"⟩ : MethodName)) hown (hw _ (List.mem_of_getElem? (i := 2) rfl)) (hw _ (List.mem_of_getElem? (i := 3) rfl)) (hw _ (List.mem_of_getElem? (i := 4) rfl)) (hw _ (List.mem_of_getElem? (i := 5) rfl)) (by decide) (argsL := [(.long (if (((u1 >>> ((4 : Int32) &&& 31)) &&& (1 : Int32)) = (0 : Int32)) then (-9223372036854775808 : Int64) else (9223372036854775807 : Int64)))]) (rest := []) (rm1 l Z a0 hw [] (if (((u1 >>> ((4 : Int32) &&& 31)) &&& (1 : Int32)) = (0 : Int32)) then (-9223372036854775808 : Int64) else (9223372036854775807 : Int64)) h0 n0 Z0) (W := 0) (by decide) (by decide) e21 (g := (mkF m 111 #[.val (.long j0), .second, .val (.int u1), .val (.long (((u1 &&& (3 : Int32)).toInt64) - (1 : Int64))), .second, .val (.long ((999999998 : Int64) + (((u1 >>> ((2 : Int32) &&& 31)) &&& (3 : Int32)).toInt64))), .second, .val (.long (if (((u1 >>> ((4 : Int32) &&& 31)) &&& (1 : Int32)) = (0 : Int32)) then (-9223372036854775808 : Int64) else (9223372036854775807 : Int64))), .second, .val (.int (1 : Int32))] [(.long (if (((u1 >>> ((4 : Int32) &&& 31)) &&& (1 : Int32)) = (0 : Int32)) then (-9223372036854775808 : Int64) else (9223372036854775807 : Int64)))])) rfl (by rw [hml]; rfl) (lenOf pd_0 rfl) rfl (by show 2 * 0 + _ ≤ _; exact Nat.le_of_eq rfl) (hb hby at_111) (Nat.le_of_ble_eq_true rfl) (Nat.le_of_ble_eq_true rfl)
  obtain ⟨rfl, N26q, e26⟩ := hQ26
  have N26 := Fr.app N21 N26q
  refine OFin.go st26 ?_
  show OFin p e below _ (T26.setTop (mkF m 114 #[.val (.long j0), .second, .val (.int u1), .val (.long (((u1 &&& (3 : Int32)).toInt64) - (1 : Int64))), .second, .val (.long ((999999998 : Int64) + (((u1 >>> ((2 : Int32) &&& 31)) &&& (3 : Int32)).toInt64))), .second, .val (.long (if (((u1 >>> ((4 : Int32) &&& 31)) &&& (1 : Int32)) = (0 : Int32)) then (-9223372036854775808 : Int64) else (9223372036854775807 : Int64))), .second, .val (.int (1 : Int32))] [(.int (fShares (if (((u1 >>> ((4 : Int32) &&& 31)) &&& (1 : Int32)) = (0 : Int32)) then (-9223372036854775808 : Int64) else (9223372036854775807 : Int64))))]))
  have S27 : ∀ t, Steps p.tables e below (T26.setTop (mkF m 116 #[.val (.long j0), .second, .val (.int u1), .val (.long (((u1 &&& (3 : Int32)).toInt64) - (1 : Int64))), .second, .val (.long ((999999998 : Int64) + (((u1 >>> ((2 : Int32) &&& 31)) &&& (3 : Int32)).toInt64))), .second, .val (.long (if (((u1 >>> ((4 : Int32) &&& 31)) &&& (1 : Int32)) = (0 : Int32)) then (-9223372036854775808 : Int64) else (9223372036854775807 : Int64))), .second, .val (.int (1 : Int32))] [(.long (if (((u1 >>> ((4 : Int32) &&& 31)) &&& (1 : Int32)) = (0 : Int32)) then (-9223372036854775808 : Int64) else (9223372036854775807 : Int64))), (.int (fShares (if (((u1 >>> ((4 : Int32) &&& 31)) &&& (1 : Int32)) = (0 : Int32)) then (-9223372036854775808 : Int64) else (9223372036854775807 : Int64))))])) t → Steps p.tables e below (T26.setTop (mkF m 114 #[.val (.long j0), .second, .val (.int u1), .val (.long (((u1 &&& (3 : Int32)).toInt64) - (1 : Int64))), .second, .val (.long ((999999998 : Int64) + (((u1 >>> ((2 : Int32) &&& 31)) &&& (3 : Int32)).toInt64))), .second, .val (.long (if (((u1 >>> ((4 : Int32) &&& 31)) &&& (1 : Int32)) = (0 : Int32)) then (-9223372036854775808 : Int64) else (9223372036854775807 : Int64))), .second, .val (.int (1 : Int32))] [(.int (fShares (if (((u1 >>> ((4 : Int32) &&& 31)) &&& (1 : Int32)) = (0 : Int32)) then (-9223372036854775808 : Int64) else (9223372036854775807 : Int64))))])) t := by
    intro t k
    show Steps p.tables e below (T26.setTop (mkF m 114 #[.val (.long j0), .second, .val (.int u1), .val (.long (((u1 &&& (3 : Int32)).toInt64) - (1 : Int64))), .second, .val (.long ((999999998 : Int64) + (((u1 >>> ((2 : Int32) &&& 31)) &&& (3 : Int32)).toInt64))), .second, .val (.long (if (((u1 >>> ((4 : Int32) &&& 31)) &&& (1 : Int32)) = (0 : Int32)) then (-9223372036854775808 : Int64) else (9223372036854775807 : Int64))), .second, .val (.int (1 : Int32))] [(.int (fShares (if (((u1 >>> ((4 : Int32) &&& 31)) &&& (1 : Int32)) = (0 : Int32)) then (-9223372036854775808 : Int64) else (9223372036854775807 : Int64))))])) t
    refine XS.lload X26.here hx rfl (hb hby at_114) rfl ?_
    exact k
  refine OFin.go S27 ?_
  obtain ⟨_, T28, Lc28, X28, hQ28, st28⟩ := callQ X26 hx hZ (y := (⟨"com/example/tickwright/tickwright/model/LimitsIsSharesPinLaw", "ref", "(J)Z"⟩ : MethodName)) hown (hw _ (List.mem_of_getElem? (i := 7) rfl)) (hw _ (List.mem_of_getElem? (i := 8) rfl)) (hw _ (List.mem_of_getElem? (i := 9) rfl)) (hw _ (List.mem_of_getElem? (i := 10) rfl)) (by decide) (argsL := [(.long (if (((u1 >>> ((4 : Int32) &&& 31)) &&& (1 : Int32)) = (0 : Int32)) then (-9223372036854775808 : Int64) else (9223372036854775807 : Int64)))]) (rest := [(.int (fShares (if (((u1 >>> ((4 : Int32) &&& 31)) &&& (1 : Int32)) = (0 : Int32)) then (-9223372036854775808 : Int64) else (9223372036854775807 : Int64))))]) (rm2 l Z a0 hw [] (if (((u1 >>> ((4 : Int32) &&& 31)) &&& (1 : Int32)) = (0 : Int32)) then (-9223372036854775808 : Int64) else (9223372036854775807 : Int64)) h0 n0 Z0) (W := 1) (by decide) (by decide) e26 (g := (mkF m 116 #[.val (.long j0), .second, .val (.int u1), .val (.long (((u1 &&& (3 : Int32)).toInt64) - (1 : Int64))), .second, .val (.long ((999999998 : Int64) + (((u1 >>> ((2 : Int32) &&& 31)) &&& (3 : Int32)).toInt64))), .second, .val (.long (if (((u1 >>> ((4 : Int32) &&& 31)) &&& (1 : Int32)) = (0 : Int32)) then (-9223372036854775808 : Int64) else (9223372036854775807 : Int64))), .second, .val (.int (1 : Int32))] [(.long (if (((u1 >>> ((4 : Int32) &&& 31)) &&& (1 : Int32)) = (0 : Int32)) then (-9223372036854775808 : Int64) else (9223372036854775807 : Int64))), (.int (fShares (if (((u1 >>> ((4 : Int32) &&& 31)) &&& (1 : Int32)) = (0 : Int32)) then (-9223372036854775808 : Int64) else (9223372036854775807 : Int64))))])) rfl (by rw [hml]; rfl) (lenOf pd_0 rfl) rfl (by show 2 * 0 + _ ≤ _; exact Nat.le_of_eq rfl) (hb hby at_116) (Nat.le_of_ble_eq_true rfl) (Nat.le_of_ble_eq_true rfl)
  obtain ⟨rfl, N28q, e28⟩ := hQ28
  have N28 := Fr.app N26 N28q
  refine OFin.go st28 ?_
  show OFin p e below _ (T28.setTop (mkF m 119 #[.val (.long j0), .second, .val (.int u1), .val (.long (((u1 &&& (3 : Int32)).toInt64) - (1 : Int64))), .second, .val (.long ((999999998 : Int64) + (((u1 >>> ((2 : Int32) &&& 31)) &&& (3 : Int32)).toInt64))), .second, .val (.long (if (((u1 >>> ((4 : Int32) &&& 31)) &&& (1 : Int32)) = (0 : Int32)) then (-9223372036854775808 : Int64) else (9223372036854775807 : Int64))), .second, .val (.int (1 : Int32))] [(.int (fRef (if (((u1 >>> ((4 : Int32) &&& 31)) &&& (1 : Int32)) = (0 : Int32)) then (-9223372036854775808 : Int64) else (9223372036854775807 : Int64)))), (.int (fShares (if (((u1 >>> ((4 : Int32) &&& 31)) &&& (1 : Int32)) = (0 : Int32)) then (-9223372036854775808 : Int64) else (9223372036854775807 : Int64))))]))
  have S29 : ∀ t, Steps p.tables e below (T28.setTop (mkF m 122 #[.val (.long j0), .second, .val (.int u1), .val (.long (((u1 &&& (3 : Int32)).toInt64) - (1 : Int64))), .second, .val (.long ((999999998 : Int64) + (((u1 >>> ((2 : Int32) &&& 31)) &&& (3 : Int32)).toInt64))), .second, .val (.long (if (((u1 >>> ((4 : Int32) &&& 31)) &&& (1 : Int32)) = (0 : Int32)) then (-9223372036854775808 : Int64) else (9223372036854775807 : Int64))), .second, .val (.int (1 : Int32))] [])) t → Steps p.tables e below (T28.setTop (mkF m 119 #[.val (.long j0), .second, .val (.int u1), .val (.long (((u1 &&& (3 : Int32)).toInt64) - (1 : Int64))), .second, .val (.long ((999999998 : Int64) + (((u1 >>> ((2 : Int32) &&& 31)) &&& (3 : Int32)).toInt64))), .second, .val (.long (if (((u1 >>> ((4 : Int32) &&& 31)) &&& (1 : Int32)) = (0 : Int32)) then (-9223372036854775808 : Int64) else (9223372036854775807 : Int64))), .second, .val (.int (1 : Int32))] [(.int (fRef (if (((u1 >>> ((4 : Int32) &&& 31)) &&& (1 : Int32)) = (0 : Int32)) then (-9223372036854775808 : Int64) else (9223372036854775807 : Int64)))), (.int (fShares (if (((u1 >>> ((4 : Int32) &&& 31)) &&& (1 : Int32)) = (0 : Int32)) then (-9223372036854775808 : Int64) else (9223372036854775807 : Int64))))])) t := by
    intro t k
    show Steps p.tables e below (T28.setTop (mkF m 119 #[.val (.long j0), .second, .val (.int u1), .val (.long (((u1 &&& (3 : Int32)).toInt64) - (1 : Int64))), .second, .val (.long ((999999998 : Int64) + (((u1 >>> ((2 : Int32) &&& 31)) &&& (3 : Int32)).toInt64))), .second, .val (.long (if (((u1 >>> ((4 : Int32) &&& 31)) &&& (1 : Int32)) = (0 : Int32)) then (-9223372036854775808 : Int64) else (9223372036854775807 : Int64))), .second, .val (.int (1 : Int32))] [(.int (fRef (if (((u1 >>> ((4 : Int32) &&& 31)) &&& (1 : Int32)) = (0 : Int32)) then (-9223372036854775808 : Int64) else (9223372036854775807 : Int64)))), (.int (fShares (if (((u1 >>> ((4 : Int32) &&& 31)) &&& (1 : Int32)) = (0 : Int32)) then (-9223372036854775808 : Int64) else (9223372036854775807 : Int64))))])) t
    refine XS.icmpNo X28.here hx rfl (hb hby at_119) rfl (teq (own_same _)).2 ?_
    exact k
  refine OFin.go S29 ?_
  have S30 : ∀ t, Steps p.tables e below (T28.setTop (mkF m 131 #[.val (.long j0), .second, .val (.int u1), .val (.long (((u1 &&& (3 : Int32)).toInt64) - (1 : Int64))), .second, .val (.long ((999999998 : Int64) + (((u1 >>> ((2 : Int32) &&& 31)) &&& (3 : Int32)).toInt64))), .second, .val (.long (if (((u1 >>> ((4 : Int32) &&& 31)) &&& (1 : Int32)) = (0 : Int32)) then (-9223372036854775808 : Int64) else (9223372036854775807 : Int64))), .second, .val (.int (1 : Int32))] [(.int (1 : Int32))])) t → Steps p.tables e below (T28.setTop (mkF m 122 #[.val (.long j0), .second, .val (.int u1), .val (.long (((u1 &&& (3 : Int32)).toInt64) - (1 : Int64))), .second, .val (.long ((999999998 : Int64) + (((u1 >>> ((2 : Int32) &&& 31)) &&& (3 : Int32)).toInt64))), .second, .val (.long (if (((u1 >>> ((4 : Int32) &&& 31)) &&& (1 : Int32)) = (0 : Int32)) then (-9223372036854775808 : Int64) else (9223372036854775807 : Int64))), .second, .val (.int (1 : Int32))] [])) t := by
    intro t k
    show Steps p.tables e below (T28.setTop (mkF m 122 #[.val (.long j0), .second, .val (.int u1), .val (.long (((u1 &&& (3 : Int32)).toInt64) - (1 : Int64))), .second, .val (.long ((999999998 : Int64) + (((u1 >>> ((2 : Int32) &&& 31)) &&& (3 : Int32)).toInt64))), .second, .val (.long (if (((u1 >>> ((4 : Int32) &&& 31)) &&& (1 : Int32)) = (0 : Int32)) then (-9223372036854775808 : Int64) else (9223372036854775807 : Int64))), .second, .val (.int (1 : Int32))] [])) t
    refine XS.iconst X28.here hx rfl (hb hby at_122) ?_
    show Steps p.tables e below (T28.setTop (mkF m 123 #[.val (.long j0), .second, .val (.int u1), .val (.long (((u1 &&& (3 : Int32)).toInt64) - (1 : Int64))), .second, .val (.long ((999999998 : Int64) + (((u1 >>> ((2 : Int32) &&& 31)) &&& (3 : Int32)).toInt64))), .second, .val (.long (if (((u1 >>> ((4 : Int32) &&& 31)) &&& (1 : Int32)) = (0 : Int32)) then (-9223372036854775808 : Int64) else (9223372036854775807 : Int64))), .second, .val (.int (1 : Int32))] [(.int (1 : Int32))])) t
    refine XS.goto X28.here hx rfl (pc0 := 123) (pc' := 127) rfl (hb hby at_123) (by decide) (by decide) ?_
    show Steps p.tables e below (T28.setTop (mkF m 127 #[.val (.long j0), .second, .val (.int u1), .val (.long (((u1 &&& (3 : Int32)).toInt64) - (1 : Int64))), .second, .val (.long ((999999998 : Int64) + (((u1 >>> ((2 : Int32) &&& 31)) &&& (3 : Int32)).toInt64))), .second, .val (.long (if (((u1 >>> ((4 : Int32) &&& 31)) &&& (1 : Int32)) = (0 : Int32)) then (-9223372036854775808 : Int64) else (9223372036854775807 : Int64))), .second, .val (.int (1 : Int32))] [(.int (1 : Int32))])) t
    refine XS.istore X28.here hx rfl (hb hby at_127) rfl (l' := #[.val (.long j0), .second, .val (.int u1), .val (.long (((u1 &&& (3 : Int32)).toInt64) - (1 : Int64))), .second, .val (.long ((999999998 : Int64) + (((u1 >>> ((2 : Int32) &&& 31)) &&& (3 : Int32)).toInt64))), .second, .val (.long (if (((u1 >>> ((4 : Int32) &&& 31)) &&& (1 : Int32)) = (0 : Int32)) then (-9223372036854775808 : Int64) else (9223372036854775807 : Int64))), .second, .val (.int (1 : Int32))]) rfl ?_
    show Steps p.tables e below (T28.setTop (mkF m 129 #[.val (.long j0), .second, .val (.int u1), .val (.long (((u1 &&& (3 : Int32)).toInt64) - (1 : Int64))), .second, .val (.long ((999999998 : Int64) + (((u1 >>> ((2 : Int32) &&& 31)) &&& (3 : Int32)).toInt64))), .second, .val (.long (if (((u1 >>> ((4 : Int32) &&& 31)) &&& (1 : Int32)) = (0 : Int32)) then (-9223372036854775808 : Int64) else (9223372036854775807 : Int64))), .second, .val (.int (1 : Int32))] [])) t
    refine XS.iload X28.here hx rfl (hb hby at_129) rfl ?_
    exact k
  refine OFin.go S30 ?_
  have S31 : ∀ t, Steps p.tables e below (T28.setTop (mkF m 134 #[.val (.long j0), .second, .val (.int u1), .val (.long (((u1 &&& (3 : Int32)).toInt64) - (1 : Int64))), .second, .val (.long ((999999998 : Int64) + (((u1 >>> ((2 : Int32) &&& 31)) &&& (3 : Int32)).toInt64))), .second, .val (.long (if (((u1 >>> ((4 : Int32) &&& 31)) &&& (1 : Int32)) = (0 : Int32)) then (-9223372036854775808 : Int64) else (9223372036854775807 : Int64))), .second, .val (.int (1 : Int32))] [])) t → Steps p.tables e below (T28.setTop (mkF m 131 #[.val (.long j0), .second, .val (.int u1), .val (.long (((u1 &&& (3 : Int32)).toInt64) - (1 : Int64))), .second, .val (.long ((999999998 : Int64) + (((u1 >>> ((2 : Int32) &&& 31)) &&& (3 : Int32)).toInt64))), .second, .val (.long (if (((u1 >>> ((4 : Int32) &&& 31)) &&& (1 : Int32)) = (0 : Int32)) then (-9223372036854775808 : Int64) else (9223372036854775807 : Int64))), .second, .val (.int (1 : Int32))] [(.int (1 : Int32))])) t := by
    intro t k
    show Steps p.tables e below (T28.setTop (mkF m 131 #[.val (.long j0), .second, .val (.int u1), .val (.long (((u1 &&& (3 : Int32)).toInt64) - (1 : Int64))), .second, .val (.long ((999999998 : Int64) + (((u1 >>> ((2 : Int32) &&& 31)) &&& (3 : Int32)).toInt64))), .second, .val (.long (if (((u1 >>> ((4 : Int32) &&& 31)) &&& (1 : Int32)) = (0 : Int32)) then (-9223372036854775808 : Int64) else (9223372036854775807 : Int64))), .second, .val (.int (1 : Int32))] [(.int (1 : Int32))])) t
    refine XS.ifNo X28.here hx rfl (hb hby at_131) rfl ((if0 _ _).trans (feq (by decide)).1) ?_
    exact k
  refine OFin.go S31 ?_
  have S32 : ∀ t, Steps p.tables e below (T28.setTop (mkF m 143 #[.val (.long j0), .second, .val (.int u1), .val (.long (((u1 &&& (3 : Int32)).toInt64) - (1 : Int64))), .second, .val (.long ((999999998 : Int64) + (((u1 >>> ((2 : Int32) &&& 31)) &&& (3 : Int32)).toInt64))), .second, .val (.long (if (((u1 >>> ((4 : Int32) &&& 31)) &&& (1 : Int32)) = (0 : Int32)) then (-9223372036854775808 : Int64) else (9223372036854775807 : Int64))), .second, .val (.int (1 : Int32))] [(.int (1 : Int32))])) t → Steps p.tables e below (T28.setTop (mkF m 134 #[.val (.long j0), .second, .val (.int u1), .val (.long (((u1 &&& (3 : Int32)).toInt64) - (1 : Int64))), .second, .val (.long ((999999998 : Int64) + (((u1 >>> ((2 : Int32) &&& 31)) &&& (3 : Int32)).toInt64))), .second, .val (.long (if (((u1 >>> ((4 : Int32) &&& 31)) &&& (1 : Int32)) = (0 : Int32)) then (-9223372036854775808 : Int64) else (9223372036854775807 : Int64))), .second, .val (.int (1 : Int32))] [])) t := by
    intro t k
    show Steps p.tables e below (T28.setTop (mkF m 134 #[.val (.long j0), .second, .val (.int u1), .val (.long (((u1 &&& (3 : Int32)).toInt64) - (1 : Int64))), .second, .val (.long ((999999998 : Int64) + (((u1 >>> ((2 : Int32) &&& 31)) &&& (3 : Int32)).toInt64))), .second, .val (.long (if (((u1 >>> ((4 : Int32) &&& 31)) &&& (1 : Int32)) = (0 : Int32)) then (-9223372036854775808 : Int64) else (9223372036854775807 : Int64))), .second, .val (.int (1 : Int32))] [])) t
    refine XS.iconst X28.here hx rfl (hb hby at_134) ?_
    show Steps p.tables e below (T28.setTop (mkF m 135 #[.val (.long j0), .second, .val (.int u1), .val (.long (((u1 &&& (3 : Int32)).toInt64) - (1 : Int64))), .second, .val (.long ((999999998 : Int64) + (((u1 >>> ((2 : Int32) &&& 31)) &&& (3 : Int32)).toInt64))), .second, .val (.long (if (((u1 >>> ((4 : Int32) &&& 31)) &&& (1 : Int32)) = (0 : Int32)) then (-9223372036854775808 : Int64) else (9223372036854775807 : Int64))), .second, .val (.int (1 : Int32))] [(.int (1 : Int32))])) t
    refine XS.goto X28.here hx rfl (pc0 := 135) (pc' := 139) rfl (hb hby at_135) (by decide) (by decide) ?_
    show Steps p.tables e below (T28.setTop (mkF m 139 #[.val (.long j0), .second, .val (.int u1), .val (.long (((u1 &&& (3 : Int32)).toInt64) - (1 : Int64))), .second, .val (.long ((999999998 : Int64) + (((u1 >>> ((2 : Int32) &&& 31)) &&& (3 : Int32)).toInt64))), .second, .val (.long (if (((u1 >>> ((4 : Int32) &&& 31)) &&& (1 : Int32)) = (0 : Int32)) then (-9223372036854775808 : Int64) else (9223372036854775807 : Int64))), .second, .val (.int (1 : Int32))] [(.int (1 : Int32))])) t
    refine XS.istore X28.here hx rfl (hb hby at_139) rfl (l' := #[.val (.long j0), .second, .val (.int u1), .val (.long (((u1 &&& (3 : Int32)).toInt64) - (1 : Int64))), .second, .val (.long ((999999998 : Int64) + (((u1 >>> ((2 : Int32) &&& 31)) &&& (3 : Int32)).toInt64))), .second, .val (.long (if (((u1 >>> ((4 : Int32) &&& 31)) &&& (1 : Int32)) = (0 : Int32)) then (-9223372036854775808 : Int64) else (9223372036854775807 : Int64))), .second, .val (.int (1 : Int32))]) rfl ?_
    show Steps p.tables e below (T28.setTop (mkF m 141 #[.val (.long j0), .second, .val (.int u1), .val (.long (((u1 &&& (3 : Int32)).toInt64) - (1 : Int64))), .second, .val (.long ((999999998 : Int64) + (((u1 >>> ((2 : Int32) &&& 31)) &&& (3 : Int32)).toInt64))), .second, .val (.long (if (((u1 >>> ((4 : Int32) &&& 31)) &&& (1 : Int32)) = (0 : Int32)) then (-9223372036854775808 : Int64) else (9223372036854775807 : Int64))), .second, .val (.int (1 : Int32))] [])) t
    refine XS.iload X28.here hx rfl (hb hby at_141) rfl ?_
    exact k
  refine OFin.go S32 ?_
  exact finZ X28 hx Bd.notSynchronized (t := .boolean) Bd.returns (by simp) (hb hby at_143) rfl (by decide) (by decide) (⟨congrArg (fun z => some (Value.int z)) (rfl : (1 : Int32) = (1 : Int32)), N28⟩)
set_option maxRecDepth 65536 in
set_option maxHeartbeats 40000000 in
theorem comes_1 {Post : Tables → Env → Array Value → State → Outcome → State → Prop} (hpost : ∀ tb e args s v u, (limb_1_1.after args s (.returned v) u = true ∧ limb_1_2.after args s (.returned v) u = true ∧ True) → FrameEnd s (.returned v) u (Jvm.fieldLocs frame_1_writes args s ++ Jvm.arrayLocs frame_1_arrays args s ++ Jvm.staticLocs frame_1_statics s) 0 0 → Post tb e args s (.returned v) u) :
    ArmFor flags0 classFile x code maxLocals ret World_1 tables_1 room_1 Calls_1 rest_1 Pre_1 Post := by
  intro l hfl _ _ p e ha hc hk s m args below hf hA hF happ hP
  obtain ⟨hcalls, hrest, hpre⟩ := hP
  obtain ⟨-, -, -, hnamed, -, -, -, hat⟩ := (Spec.applies_iff hf).mp happ
  obtain ⟨hg, hn⟩ := and_e (Cond.before_iff.mp (show (Jvm.Cond.and given_1 narrow_1).before args s = true from hpre))
  obtain ⟨gg2, gg3⟩ := and_e hg
  obtain ⟨gg4, gg5⟩ := and_e gg3
  obtain ⟨w0, w1, rfl⟩ : ∃ w0 w1 : Value, args = #[w0, w1] := by
    have hs : args.size = 2 := by simpa [Cond.value, given_1] using gg2
    obtain ⟨L⟩ := args
    match L, hs with
    | [w0, w1], _ => exact ⟨w0, w1, rfl⟩
  have hw := fun d (hd : d ∈ tables_1) => atoms_spec (ws := Jvm.Cond.code x code maxLocals ret :: tables_1) hat d (List.mem_cons_of_mem _ hd)
  have hfit : Fit s := fun {y c} hc i hi => by
    obtain ⟨ha, rfl⟩ := Array.getElem?_eq_some_iff.mp hc
    have q := List.all_eq_true.mp ((Array.all_eq_true_iff_forall_mem.mp hF) _ (Array.getElem_mem ha)) i (List.mem_range.mpr hi)
    simpa [Array.getElem?_eq_getElem hi] using q
  obtain ⟨i0, ei0⟩ := isL_v gg4
  obtain rfl : w0 = (.long i0) := Option.some.inj ei0
  obtain ⟨i1, ei1⟩ := is_v gg5
  obtain rfl : w1 = (.int i1) := Option.some.inj ei1
  obtain ⟨n, o, h1, h2, h3, _, L, rfl, ⟨rfl, N⟩, hq⟩ := rm0 l s _ hw tables_1 i0 i1 s.heap s.heap.size (Nat.le_refl _)  p e ha hc hk s m _ below hf ((Spec.applies_iff_loose hf).mp happ).1 ⟨rfl, State.Warmed39.refl s, rfl⟩ trivial
  refine ⟨n, _, h1, h2, h3, hpost _ _ _ _ _ _ ⟨Cond.after_iff.mpr rfl, Cond.after_iff.mpr (eq_i res_at (Term.int_eval (1)) rfl), trivial⟩ ⟨hq.1, hq.2.1, (hq.2.2.sift fun y hy => Or.inr (N y hy)).mono (by decide) (by decide)⟩⟩
theorem main_1_1 : Claimed_1_1 := comes_1 fun _ _ _ _ _ _ h hF => ⟨h.1, hF⟩
theorem main_1_2 : Claimed_1_2 := comes_1 fun _ _ _ _ _ _ h hF => ⟨h.2.1, hF⟩
end Jvm.Pilot.@@N@@
namespace Jvm.Pilot.@@N@@
open Jvm Jvm.ClassFile Sem Op Lib Jvm.Free Jvm.Stand Jvm.Pilot.@@N@@.Jvm.D
/-! MADE BY PROGRAM (witnessworld.py) out of the Statement's table words and the real class files: 9 classes; the members and pool entries that the words name. The judged class is class 1, her method 2. -/
namespace start1
open Jvm.ClassFile
def u (s : String) : CpInfo := .utf8 (stringToUtf16 s)
/-- a pool by its gaps: so many unusable entries, then the entry; so many at the end -/
def gap : Nat → List CpInfo → List CpInfo
  | 0, r => r
  | n + 1, r => .unusable :: gap n r
def poolList (es : List (Nat × CpInfo)) (last : Nat) : List CpInfo := es.foldr (fun e r => gap e.1 (e.2 :: r)) (gap last [])
def pool (es : List (Nat × CpInfo)) (last : Nat) : Array CpInfo := ⟨poolList es last⟩
def fileOf (pool : Array CpInfo) (this : Nat) (attrs : Array Attribute := #[]) (ms : Array MethodInfo := #[]) (fl : Nat := 33) (sup : Nat := 0) (ifs : Array Nat := #[]) (fds : Array FieldInfo := #[]) : ClassFile where
  minorVersion := 0
  majorVersion := 65
  constantPool := pool
  accessFlags := fl
  thisClass := this
  superClass := sup
  interfaces := ifs
  fields := fds
  methods := ms
  attributes := attrs
def plain (name : String) (sup : Option ClassId) : Class where
  name := name
  kind := .ordinary
  loader := none
  accessFlags := 33
  super := sup
  interfaces := #[]
  cf := none
  fields := #[]
  methods := #[]
  instanceTypes := #[]
  staticTypes := #[]
  resolved := #[]
  callSites := []
  init := .initialized
  statics := none
  mirror := none

def pool0 : Array CpInfo := pool [(5, u "<init>"), (0, u "()V"), (1, .class_ 10), (1, u "java/lang/Object")] 113

def k0m0 : Method := { name := "<init>", desc := "()V", sig := { parameters := [], returnType := none }, accessFlags := 1, code := none }
/-- java/lang/Object -/
def k0 : Class := { plain "java/lang/Object" none with
  accessFlags := 33
  interfaces := #[]
  cf := some (fileOf pool0 8 #[] #[{ accessFlags := 1, nameIndex := 5, descriptorIndex := 6, attributes := #[] }] 33 0 #[] #[])
  fields := #[]
  methods := #[k0m0]
  instanceTypes := #[]
  staticTypes := #[]
  resolved := Array.replicate 124 none
  statics := none }

def pool1 : Array CpInfo := pool [(2, .class_ 4), (1, u "java/lang/Object"), (0, u "<init>"), (0, u "()V"), (0, .long 1000000000), (1, .long 999999998), (3, .long 9223372036854775807), (1, .long 9223372036854775808), (1, .methodref 18 19), (0, .class_ 20), (0, .nameAndType 21 22), (0, u "com/example/tickwright/tickwright/model/Limits"), (0, u "isShares"), (0, u "(J)Z"), (0, .methodref 24 25), (0, .class_ 26), (0, .nameAndType 27 22), (0, u "com/example/tickwright/tickwright/model/LimitsIsSharesPinLaw"), (0, u "ref"), (3, u "law"), (0, u "(JI)Z")] 2

def k1m0 : Method := { name := "<init>", desc := "()V", sig := { parameters := [], returnType := none }, accessFlags := 2, code := none }
def k1c1 : Code := { maxStack := 4, maxLocals := 2, code := method_2_code, exceptionTable := #[], attributes := #[] }
def k1m1 : Method := { name := "ref", desc := "(J)Z", sig := { parameters := [.long], returnType := some .boolean }, accessFlags := 10, code := some k1c1 }
def k1c2 : Code := { maxStack := 4, maxLocals := 10, code := code, exceptionTable := #[], attributes := #[] }
def k1m2 : Method := { name := "law", desc := "(JI)Z", sig := { parameters := [.long, .int], returnType := some .boolean }, accessFlags := 9, code := some k1c2 }
/-- com/example/tickwright/tickwright/model/LimitsIsSharesPinLaw -/
def k1 : Class := { plain "com/example/tickwright/tickwright/model/LimitsIsSharesPinLaw" (some 0) with
  accessFlags := 49
  interfaces := #[]
  cf := some (fileOf pool1 24 #[] #[{ accessFlags := 2, nameIndex := 5, descriptorIndex := 6, attributes := #[] }, { accessFlags := 10, nameIndex := 27, descriptorIndex := 22, attributes := #[] }, { accessFlags := 9, nameIndex := 31, descriptorIndex := 32, attributes := #[] }] 49 2 #[] #[])
  fields := #[]
  methods := #[k1m0, k1m1, k1m2]
  instanceTypes := #[]
  staticTypes := #[]
  resolved := Array.replicate 35 none
  statics := none }

def pool2 : Array CpInfo := pool [(2, .class_ 4), (1, u "java/lang/Object"), (0, u "<init>"), (0, u "()V"), (0, .class_ 8), (0, u "com/example/tickwright/tickwright/model/Limits"), (0, .long 999999999), (3, u "SYMBOL"), (0, u "Ljava/util/regex/Pattern;"), (14, u "ORDER_ID"), (8, u "MIN_SHARES"), (0, u "J"), (3, u "MAX_SHARES"), (2, u "isShares"), (0, u "(J)Z")] 8

def k2m0 : Method := { name := "<init>", desc := "()V", sig := { parameters := [], returnType := none }, accessFlags := 2, code := none }
def k2c1 : Code := { maxStack := 4, maxLocals := 2, code := prog_33_method_2_code, exceptionTable := #[], attributes := #[] }
def k2m1 : Method := { name := "isShares", desc := "(J)Z", sig := { parameters := [.long], returnType := some .boolean }, accessFlags := 9, code := some k2c1 }
/-- com/example/tickwright/tickwright/model/Limits -/
def k2 : Class := { plain "com/example/tickwright/tickwright/model/Limits" (some 0) with
  accessFlags := 49
  interfaces := #[]
  cf := some (fileOf pool2 7 #[] #[{ accessFlags := 2, nameIndex := 5, descriptorIndex := 6, attributes := #[] }, { accessFlags := 9, nameIndex := 46, descriptorIndex := 47, attributes := #[] }] 49 2 #[] #[{ accessFlags := 25, nameIndex := 38, descriptorIndex := 39, attributes := #[] }, { accessFlags := 25, nameIndex := 43, descriptorIndex := 39, attributes := #[] }, { accessFlags := 26, nameIndex := 13, descriptorIndex := 14, attributes := #[] }, { accessFlags := 26, nameIndex := 29, descriptorIndex := 14, attributes := #[] }])
  fields := #[{ name := "MIN_SHARES", type := .long, accessFlags := 25, slot := 0, constantValue := 0 }, { name := "MAX_SHARES", type := .long, accessFlags := 25, slot := 1, constantValue := 0 }, { name := "SYMBOL", type := (.object "java/util/regex/Pattern"), accessFlags := 26, slot := 2, constantValue := 0 }, { name := "ORDER_ID", type := (.object "java/util/regex/Pattern"), accessFlags := 26, slot := 3, constantValue := 0 }]
  methods := #[k2m0, k2m1]
  instanceTypes := #[]
  staticTypes := #[.long, .long, (.object "java/util/regex/Pattern"), (.object "java/util/regex/Pattern")]
  resolved := Array.replicate 56 none
  statics := none }

def pool3 : Array CpInfo := pool [(1, u "java/lang/Cloneable"), (0, .class_ 1), (0, u "java/lang/Object"), (0, .class_ 3)] 3

/-- java/lang/Cloneable -/
def k3 : Class := { plain "java/lang/Cloneable" (some 0) with
  accessFlags := 1537
  interfaces := #[]
  cf := some (fileOf pool3 2 #[] #[] 1537 4 #[] #[])
  fields := #[]
  methods := #[]
  instanceTypes := #[]
  staticTypes := #[]
  resolved := Array.replicate 8 none
  statics := none }

def pool4 : Array CpInfo := pool [(1, u "java/io/Serializable"), (0, .class_ 1), (0, u "java/lang/Object"), (0, .class_ 3)] 3

/-- java/io/Serializable -/
def k4 : Class := { plain "java/io/Serializable" (some 0) with
  accessFlags := 1537
  interfaces := #[]
  cf := some (fileOf pool4 2 #[] #[] 1537 4 #[] #[])
  fields := #[]
  methods := #[]
  instanceTypes := #[]
  staticTypes := #[]
  resolved := Array.replicate 8 none
  statics := none }

/-- the primitive byte -/
def k5 : Class := { plain "byte" none with kind := .primitive 'B', accessFlags := 0x411 }
/-- [B -/
def k6 : Class := { plain "[B" (some 0) with kind := .array 5 .byte, interfaces := #[3, 4], accessFlags := 1041 }

/-- the primitive int -/
def k7 : Class := { plain "int" none with kind := .primitive 'I', accessFlags := 0x411 }
/-- [I -/
def k8 : Class := { plain "[I" (some 0) with kind := .array 7 .int, interfaces := #[3, 4], accessFlags := 1041 }

def heap : Heap := #[]
def classes : Array Class := #[k0, k1, k2, k3, k4, k5, k6, k7, k8]
def interned : List (Array UInt16 × Addr) := []
def slotsUsed : Nat := 0
def theMethod : MethodId := ⟨1, 2⟩
def args0 : Array Value := #[.long 5, .int 3]
def aboutOver (below : List Frame) : State where
  vm := { classes := classes, interned := interned.toArray }
  heap := heap
  slotsUsed := slotsUsed
  threads := #[{ frames := .invoking theMethod args0 :: below }]
def below0 : List Frame := [.native { method := ⟨0, 0⟩, args := #[] }]
def about1 : State := aboutOver below0
def p0 : Program := .bare "" "" ""
def e0 : Env := launch0.env 0 0 0
theorem w_frames : about1.frames = Frame.invoking theMethod args0 :: below0 := rfl
set_option maxRecDepth 65536 in
theorem w_args : argsFit about1.vm theMethod args0 = true := by decide +kernel
set_option maxRecDepth 65536 in
theorem w_heap : heapFits about1 = true := by decide +kernel
set_option maxRecDepth 65536 in
theorem w_runnable : about1.curStatus? = some .runnable := by decide +kernel
set_option maxRecDepth 65536 in
theorem w_alone : about1.alone = true := by decide +kernel
set_option maxRecDepth 65536 in
theorem w_named : about1.methodNamed? x = some theMethod := by decide +kernel
set_option maxRecDepth 65536 in
theorem w_hears : about1.hears theMethod below0 = true := by decide +kernel
set_option maxRecDepth 65536 in
theorem w_ripe : about1.ripe theMethod args0 below0 = true := by decide +kernel
theorem w_running : about1.status = .running := rfl
set_option maxRecDepth 65536 in
theorem w_room : about1.hasRoom e0.platform room_1 = true :=
  launch0.hasRoom_least _ room_1 (by decide +kernel) (by decide +kernel) (by decide +kernel) (by decide +kernel) (by decide +kernel) (by decide +kernel)
theorem allAtoms_all (ts : List Jvm.Cond) (a : Array Jvm.Value) (st : Jvm.State) : (allAtoms ts).before a st = ts.all (fun c => c.before a st) := by
  induction ts with
  | nil => rfl
  | cons c t ih =>
    show (Jvm.Cond.and c (allAtoms t)).before a st = _
    rw [Jvm.Cond.before_and, ih, List.all_cons]
def words1 : List Jvm.Cond := Jvm.Cond.code x code maxLocals ret :: tables_1
/-- a 'code' word, met by the world's own term for the bytes: nothing is compared byte by byte -/
theorem code_word {y : MethodName} {bytes : ByteArray} {mx : Nat} {rt : Option FieldType} {a : Array Value} {s : State} {m : MethodId} {meth : Method} {c : Code} (h1 : s.methodNamed? y = some m) (h2 : s.vm.method? m = some meth) (h3 : meth.code = some c) (h4 : c.code = bytes)
    (h5 : (c.maxLocals == mx && c.exceptionTable.isEmpty && decide (c.maxStack ≤ mostOperands) && decide (meth.sig.returnType = rt) && !meth.locks && decide (parseMethodDescriptor y.desc = some meth.sig)) = true) : (Jvm.Cond.code y bytes mx rt).before a s = true := by
  simp only [Bool.and_eq_true, beq_iff_eq, Bool.not_eq_true', decide_eq_true_eq] at h5
  obtain ⟨⟨⟨⟨⟨g1, g2⟩, g3⟩, g4⟩, g5⟩, g6⟩ := h5
  simp [Cond.before, Cond.holds, Cond.value, h1, h2, h3, h4, g1, g2, g3, g4, g5, g6]
def isCode : Jvm.Cond → Bool
  | .code _ _ _ _ => true
  | _ => false
theorem all_split {L : List Jvm.Cond} {P : Jvm.Cond → Bool} (h1 : L.all (fun c => isCode c || P c) = true) (h2 : ∀ c ∈ L.filter isCode, P c = true) : L.all P = true := by
  refine List.all_eq_true.mpr fun c hc => ?_
  have h := List.all_eq_true.mp h1 c hc
  rcases Bool.eq_false_or_eq_true (isCode c) with hi | hi
  · exact h2 c (List.mem_filter.mpr ⟨hc, hi⟩)
  · simpa [hi] using h
set_option maxRecDepth 65536 in
theorem w_c0 : (Jvm.Cond.code x code maxLocals ret).before args0 about1 = true := code_word (m := ⟨1, 2⟩) (meth := k1m2) (c := k1c2) (by decide +kernel) rfl rfl rfl (by decide +kernel)
set_option maxRecDepth 65536 in
theorem w_c1 : (Jvm.Cond.code ({ cls := "com/example/tickwright/tickwright/model/Limits", name := "isShares", desc := "(J)Z" } : Jvm.MethodName) prog_33_method_2_code (2 : Nat) (Option.some Jvm.ClassFile.FieldType.boolean)).before args0 about1 = true := code_word (m := ⟨2, 1⟩) (meth := k2m1) (c := k2c1) (by decide +kernel) rfl rfl rfl (by decide +kernel)
set_option maxRecDepth 65536 in
theorem w_c2 : (Jvm.Cond.code ({ cls := "com/example/tickwright/tickwright/model/LimitsIsSharesPinLaw", name := "ref", desc := "(J)Z" } : Jvm.MethodName) method_2_code (2 : Nat) (Option.some Jvm.ClassFile.FieldType.boolean)).before args0 about1 = true := code_word (m := ⟨1, 1⟩) (meth := k1m1) (c := k1c1) (by decide +kernel) rfl rfl rfl (by decide +kernel)
def codes1 : List Jvm.Cond := [Jvm.Cond.code x code maxLocals ret, Jvm.Cond.code ({ cls := "com/example/tickwright/tickwright/model/Limits", name := "isShares", desc := "(J)Z" } : Jvm.MethodName) prog_33_method_2_code (2 : Nat) (Option.some Jvm.ClassFile.FieldType.boolean), Jvm.Cond.code ({ cls := "com/example/tickwright/tickwright/model/LimitsIsSharesPinLaw", name := "ref", desc := "(J)Z" } : Jvm.MethodName) method_2_code (2 : Nat) (Option.some Jvm.ClassFile.FieldType.boolean)]
set_option maxRecDepth 65536 in
theorem codes_eq : words1.filter isCode = codes1 := rfl
theorem w_codes : ∀ c ∈ words1.filter isCode, c.before args0 about1 = true := by
  rw [codes_eq]
  intro c hc
  simp only [codes1, List.mem_cons, List.not_mem_nil, or_false] at hc
  rcases hc with rfl | rfl | rfl
  · exact w_c0
  · exact w_c1
  · exact w_c2
set_option maxRecDepth 65536 in
theorem w_t1 : words1.all (fun c => isCode c || c.before args0 about1) = true := by decide +kernel
theorem w_tables : (allAtoms (Jvm.Cond.code x code maxLocals ret :: tables_1)).before args0 about1 = true := by
  rw [allAtoms_all]
  show words1.all (fun c => c.before args0 about1) = true
  refine all_split ?_ w_codes
  rw [w_t1]
set_option maxRecDepth 65536 in
theorem w_case : (Jvm.Cond.and given_1 narrow_1).before args0 about1 = true := by decide +kernel
theorem w_applies : (headSpec (Jvm.Cond.code x code maxLocals ret :: tables_1) room_1).applies x e0.platform about1 = true :=
  (Spec.applies_iff w_frames).mpr ⟨w_running, w_runnable, w_alone, w_named, w_hears, w_ripe, w_room, w_tables⟩
theorem atStart : AtStart classFile x code maxLocals ret World_1 tables_1 room_1 Calls_1 rest_1 Pre_1 launch0 p0 e0 about1 theMethod args0 below0 :=
  ⟨lists_1, trivial, launch0.admits_env _ _ _, launch0.least_env, fairChoices_fair.cas, fairChoices_fair.clock, w_frames, w_args, w_heap, w_applies, trivial, trivial, w_case⟩
end start1
theorem witness_1 : WitnessClaimed_1 := ⟨start1.p0, start1.e0, start1.about1, start1.theMethod, start1.args0, start1.below0, start1.atStart⟩
end Jvm.Pilot.@@N@@
