import JvmDerived
import JvmDerived.Pilot.@@N@@Statement
import JvmDerived.Pilot.@@N@@Code
set_option linter.unusedVariables false
set_option linter.unusedSimpArgs false
namespace Jvm.Pilot.@@N@@
open Jvm Jvm.ClassFile Sem Op Lib Jvm.Free Jvm.Stand Jvm.LawKit Jvm.RoadKit Bundle Jvm.Pilot.@@N@@.Jvm.D
/-! the walk in continuation style: 'Fin': from F on the run comes to an end that answers Q -/
section Own
variable {p : Program} {l : Launch} {e : Env} {R : Room} {s : State} {m : MethodId} {args : Array Value} {below : List Frame} {meth : Method} {c : Code} {T : State} {locs : List Loc} {cells slots : Nat}
def OFin (p : Program) (e : Env) (below : List Frame) (Q : Outcome → State → Prop) (F : State) : Prop := ∃ s₂ o, Steps p.tables e below F s₂ ∧ s₂.status = .running ∧ Ended s₂ below o ∧ Q o s₂
def ORet (Q : Option Value → Heap → List Loc → Prop) (s : State) (C S : Nat) (o : Outcome) (U' : State) : Prop := ∃ v L, o = .returned v ∧ Q v U'.heap L ∧ FrameEnd s o U' L C S
theorem OFin.go {Q : Outcome → State → Prop} {F F' : State} (st : ∀ t, Steps p.tables e below F' t → Steps p.tables e below F t) (h : OFin p e below Q F') : OFin p e below Q F := by
  obtain ⟨s2, o, h1, r⟩ := h; exact ⟨s2, o, st _ h1, r⟩
theorem OFin.tr {Q : Outcome → State → Prop} {F F' : State} (st : Steps p.tables e below F F') (h : OFin p e below Q F') : OFin p e below Q F := by
  obtain ⟨s2, o, h1, r⟩ := h; exact ⟨s2, o, st.trans h1, r⟩
variable {Q : Option Value → Heap → List Loc → Prop} {C S : Nat}
theorem finZ (X : Stand p l e R s m args below meth c T locs cells slots) (hx : p.tables.exec = Jvm.exec) (hlocks : meth.locks = false) {t : FieldType} (hret : meth.sig.returnType = some t) (ht : t = .boolean ∨ t = .byte ∨ t = .char ∨ t = .short) {pc : Nat} (hd : decode c.code pc = .ok (.ireturn, 1)) {z z' : Int32} (hz : nar t z = z') (hc : cells ≤ C) (hs : slots ≤ S) {Ls : Array Slot} {rest : List Value} (hQ : Q (some (.int z')) T.heap locs) : OFin p e below (ORet Q s C S) (T.setTop (mkF m pc Ls (.int z :: rest))) := by
  subst hz
  obtain ⟨fs, hr, hrun, hended, hW, hsame⟩ := X.leave (v := some (.int (nar t z))) (fun h => by rw [hret] at h; cases h)
  exact ⟨_, _, retN X hx (t := t) hret ht hd hr, hrun, hended, _, _, rfl, hQ, ⟨_, rfl⟩, hW, hsame.mono hc hs⟩
theorem finI (X : Stand p l e R s m args below meth c T locs cells slots) (hx : p.tables.exec = Jvm.exec) (hlocks : meth.locks = false) (hret : meth.sig.returnType = some .int) {pc : Nat} (hd : decode c.code pc = .ok (.ireturn, 1)) {z : Int32} (hc : cells ≤ C) (hs : slots ≤ S) {Ls : Array Slot} {rest : List Value} (hQ : Q (some (.int z)) T.heap locs) : OFin p e below (ORet Q s C S) (T.setTop (mkF m pc Ls (.int z :: rest))) := by
  obtain ⟨fs, hr, hrun, hended, hW, hsame⟩ := X.leave (v := some (.int z)) (fun h => by rw [hret] at h; cases h)
  exact ⟨_, _, retOut X hx hret rfl (Or.inl ⟨rfl, Or.inl rfl, _, rfl⟩) hd hr, hrun, hended, _, _, rfl, hQ, ⟨_, rfl⟩, hW, hsame.mono hc hs⟩
theorem finJ (X : Stand p l e R s m args below meth c T locs cells slots) (hx : p.tables.exec = Jvm.exec) (hlocks : meth.locks = false) (hret : meth.sig.returnType = some .long) {pc : Nat} (hd : decode c.code pc = .ok (.lreturn, 1)) {z : Int64} (hc : cells ≤ C) (hs : slots ≤ S) {Ls : Array Slot} {rest : List Value} (hQ : Q (some (.long z)) T.heap locs) : OFin p e below (ORet Q s C S) (T.setTop (mkF m pc Ls (.long z :: rest))) := by
  obtain ⟨fs, hr, hrun, hended, hW, hsame⟩ := X.leave (v := some (.long z)) (fun h => by rw [hret] at h; cases h)
  exact ⟨_, _, retOut X hx hret rfl (Or.inr (Or.inl ⟨rfl, rfl, _, rfl⟩)) hd hr, hrun, hended, _, _, rfl, hQ, ⟨_, rfl⟩, hW, hsame.mono hc hs⟩
theorem finA (X : Stand p l e R s m args below meth c T locs cells slots) (hx : p.tables.exec = Jvm.exec) (hlocks : meth.locks = false) {w : Value} (hw : w.isRef = true) {t : FieldType} (hret : meth.sig.returnType = some t) (ht : t.isReference = true) {pc : Nat} (hd : decode c.code pc = .ok (.areturn, 1)) (hc : cells ≤ C) (hs : slots ≤ S) {Ls : Array Slot} {rest : List Value} (hQ : Q (some w) T.heap locs) : OFin p e below (ORet Q s C S) (T.setTop (mkF m pc Ls (w :: rest))) := by
  obtain ⟨fs, hr, hrun, hended, hW, hsame⟩ := X.leave (v := some w) (fun h => by rw [hret] at h; cases h)
  refine ⟨_, _, retOut X hx hret ?_ (Or.inr (Or.inr (Or.inr (Or.inr ⟨rfl, ht, hw⟩)))) hd hr, hrun, hended, _, _, rfl, hQ, ⟨_, rfl⟩, hW, hsame.mono hc hs⟩
  cases w <;> first | (simp [Value.isRef] at hw; done) | (cases t <;> first | rfl | (simp [FieldType.isReference] at ht; done))
theorem finV (X : Stand p l e R s m args below meth c T locs cells slots) (hx : p.tables.exec = Jvm.exec) (hlocks : meth.locks = false) (hret : meth.sig.returnType = none) {pc : Nat} (hd : decode c.code pc = .ok (.return_, 1)) (hc : cells ≤ C) (hs : slots ≤ S) {Ls : Array Slot} (hQ : Q none T.heap locs) : OFin p e below (ORet Q s C S) (T.setTop (mkF m pc Ls [])) := by
  obtain ⟨fs, hr, hrun, hended, hW, hsame⟩ := X.leave (v := none) (fun _ => rfl)
  exact ⟨_, _, X.returnOut hx hret hd hr, hrun, hended, _, _, rfl, hQ, ⟨_, rfl⟩, hW, hsame.mono hc hs⟩
end Own
/-- a boolean as the int that bears it -/
def bi (P : Prop) [Decidable P] : Int32 := if P then 1 else 0
theorem bi_t {P : Prop} [Decidable P] (h : P) : bi P = 1 := if_pos h
theorem bi_f {P : Prop} [Decidable P] (h : ¬ P) : bi P = 0 := if_neg h
theorem nar_bi (P : Prop) [Decidable P] : nar .boolean (bi P) = bi P := by unfold bi; split <;> rfl
theorem bi_iff {P Q : Prop} [Decidable P] [Decidable Q] : bi P = bi Q ↔ (P ↔ Q) := by
  unfold bi; by_cases h : P <;> by_cases k : Q <;> simp [h, k]
theorem bi0 {P : Prop} [Decidable P] : (bi P = 0) ↔ ¬ P := by unfold bi; by_cases h : P <;> simp [h]
theorem bi_ne_t {P : Prop} [Decidable P] (h : P) : ifCond.holds .ne (bi P) = true := by rw [bi_t h]; rfl
theorem bi_ne_f {P : Prop} [Decidable P] (h : ¬ P) : ifCond.holds .ne (bi P) = false := by rw [bi_f h]; rfl
theorem bi_eq_t {P : Prop} [Decidable P] (h : ¬ P) : ifCond.holds .eq (bi P) = true := by rw [bi_f h]; rfl
theorem bi_eq_f {P : Prop} [Decidable P] (h : P) : ifCond.holds .eq (bi P) = false := by rw [bi_t h]; rfl
theorem lc_lt_t {x y : Int64} (h : x < y) : ifCond.holds .lt (lcmpW x y) = true := (if0 _ _).trans (tlt ((lw_lt x y).mpr h)).1
theorem lc_lt_f {x y : Int64} (h : ¬ x < y) : ifCond.holds .lt (lcmpW x y) = false := (if0 _ _).trans (flt fun q => h ((lw_lt x y).mp q)).1
theorem lc_ge_t {x y : Int64} (h : ¬ x < y) : ifCond.holds .ge (lcmpW x y) = true := (if0 _ _).trans (flt fun q => h ((lw_lt x y).mp q)).2.1
theorem lc_ge_f {x y : Int64} (h : x < y) : ifCond.holds .ge (lcmpW x y) = false := (if0 _ _).trans (tlt ((lw_lt x y).mpr h)).2.1
theorem lc_gt_t {x y : Int64} (h : y < x) : ifCond.holds .gt (lcmpW x y) = true := (if0 _ _).trans (tlt ((lw_gt x y).mpr h)).2.2.1
theorem lc_gt_f {x y : Int64} (h : ¬ y < x) : ifCond.holds .gt (lcmpW x y) = false := (if0 _ _).trans (flt fun q => h ((lw_gt x y).mp q)).2.2.1
theorem lc_le_t {x y : Int64} (h : ¬ y < x) : ifCond.holds .le (lcmpW x y) = true := (if0 _ _).trans (flt fun q => h ((lw_gt x y).mp q)).2.2.2
theorem lc_le_f {x y : Int64} (h : y < x) : ifCond.holds .le (lcmpW x y) = false := (if0 _ _).trans (tlt ((lw_gt x y).mpr h)).2.2.2
theorem lc_eq_t {x y : Int64} (h : x = y) : ifCond.holds .eq (lcmpW x y) = true := (if0 _ _).trans (teq ((lw_eq x y).mpr h)).1
theorem lc_eq_f {x y : Int64} (h : ¬ x = y) : ifCond.holds .eq (lcmpW x y) = false := (if0 _ _).trans (feq fun q => h ((lw_eq x y).mp q)).1
theorem lc_ne_t {x y : Int64} (h : ¬ x = y) : ifCond.holds .ne (lcmpW x y) = true := (if0 _ _).trans (feq fun q => h ((lw_eq x y).mp q)).2
theorem lc_ne_f {x y : Int64} (h : x = y) : ifCond.holds .ne (lcmpW x y) = false := (if0 _ _).trans (teq ((lw_eq x y).mpr h)).2
/-! arrays by their places -/
def upd {α : Type} (f : Nat → α) (i : Nat) (v : α) : Nat → α := fun j => if j = i then v else f j
theorem upd_hit {α : Type} (f : Nat → α) (i : Nat) (v : α) : upd f i v i = v := if_pos rfl
theorem upd_miss {α : Type} {f : Nat → α} {i j : Nat} {v : α} (h : j ≠ i) : upd f i v j = f j := if_neg h
def Ara (Z : State) (h : Heap) (a : Addr) (ty : FieldType) (n : Nat) (f : Nat → Value) : Prop := ∃ c : Cell, Arr Z h a c ty ∧ c.slots.size = n ∧ n < 2 ^ 31 ∧ ∀ i, i < n → c.slots[i]? = some (f i)
section Ara
variable {Z : State} {h h' : Heap} {a b : Addr} {ty : FieldType} {n : Nat} {f f' : Nat → Value} {sl : Nat} {v : Value} {ws : List Addr}
theorem Ara.lt (F : Ara Z h a ty n f) : a < h.size := by obtain ⟨c, A, -⟩ := F; exact A.lt
theorem Ara.ext (F : Ara Z h a ty n f) (E : Ext h h') : Ara Z h' a ty n f := by obtain ⟨c, A, r⟩ := F; exact ⟨c, A.ext E, r⟩
theorem Ara.other (F : Ara Z h b ty n f) (W : Wr h h' a sl v) (q : b ≠ a) : Ara Z h' b ty n f := by obtain ⟨c, A, r⟩ := F; exact ⟨c, A.other W q, r⟩
theorem Ara.keep (F : Ara Z h a ty n f) (K : Keep h h' ws) (q : a ∉ ws) : Ara Z h' a ty n f := by obtain ⟨c, A, r⟩ := F; exact ⟨c, ⟨K.2.1 a c A.1 q, A.2⟩, r⟩
theorem Ara.set (F : Ara Z h a ty n f) (W : Wr h h' a sl v) : Ara Z h' a ty n (upd f sl v) := by
  obtain ⟨c, A, r1, r2, r3⟩ := F
  refine ⟨_, A.same W, by rw [sz_set]; exact r1, r2, fun i hi => ?_⟩
  by_cases q : i = sl
  · subst q; rw [upd_hit]; simp [Cell.setSlot, r1, hi]
  · rw [upd_miss q]; simp only [Cell.setSlot]; rw [Array.getElem?_setIfInBounds_ne (fun z => q z.symm)]; exact r3 i hi
theorem Ara.new {k : ClassId} {z : Int32} (A : Arr Z h a (newA k ty z) ty) (hn : z.toNatClampNeg = n) : Ara Z h a ty n (fun _ => defaultValue ty) := by
  refine ⟨_, A, by rw [sz_new]; exact hn, ?_, fun i hi => ?_⟩
  · rw [← hn]; have := z.toInt_lt; unfold Int32.toNatClampNeg; omega
  · rw [← hn] at hi; simp [newA, hi]
theorem Ara.congr (F : Ara Z h a ty n f) (q : ∀ i, i < n → f i = f' i) : Ara Z h a ty n f' := by obtain ⟨c, A, r1, r2, r3⟩ := F; exact ⟨c, A, r1, r2, fun i hi => by rw [← q i hi]; exact r3 i hi⟩
variable {p : Program} {l : Launch} {e : Env} {R : Room} {s : State} {m : MethodId} {args : Array Value} {below : List Frame} {meth : Method} {c : Code} {T : State} {locs : List Loc} {cells slots : Nat} {j : Int32} {i : Nat} {rest : List Value} {g : JFrame} {t : State} {x : Value}
theorem hin_of {cl : Cell} (S : cl.slots.size = n) (hj0 : ¬ j < 0) (hj : j.toNatClampNeg = i) (hi : i < n) : ¬ (j < 0 ∨ cl.slots.size ≤ j.toNatClampNeg) := by rw [S, hj]; exact fun q => q.elim hj0 (Nat.not_le.mpr hi)
theorem rdB (X : Stand p l e R s m args below meth c T locs cells slots) (hx : p.tables.exec = Jvm.exec) (hZ : Z.Warmed39 s.vm) (eT : T.heap = h) (F : Ara Z h a .byte n f) (hj0 : ¬ j < 0) (hj : j.toNatClampNeg = i) (hi : i < n) (hv : f i = x) (hg : g.method = m) (hs : g.stack = .int j :: .ref a :: rest) (hd : decode c.code g.pc = .ok (.baload, 1))
    (k : Steps p.tables e below (T.setTop { g with pc := g.pc + 1, stack := x :: rest }) t) : Steps p.tables e below (T.setTop g) t := by
  obtain ⟨cl, A, r1, r2, r3⟩ := F
  exact X.baloadBytes hx (by rw [eT]; exact A.1) (State.isArrayOf_alike hZ.alike A.2.1) A.2.2 (hin_of r1 hj0 hj hi) (by rw [hj, r3 i hi, hv]) hg hs hd _ k
theorem rdI (X : Stand p l e R s m args below meth c T locs cells slots) (hx : p.tables.exec = Jvm.exec) (hZ : Z.Warmed39 s.vm) (eT : T.heap = h) (F : Ara Z h a .int n f) (hj0 : ¬ j < 0) (hj : j.toNatClampNeg = i) (hi : i < n) (hv : f i = x) (hg : g.method = m) (hs : g.stack = .int j :: .ref a :: rest) (hd : decode c.code g.pc = .ok (.iaload, 1))
    (k : Steps p.tables e below (T.setTop { g with pc := g.pc + 1, stack := x :: rest }) t) : Steps p.tables e below (T.setTop g) t := by
  obtain ⟨cl, A, r1, r2, r3⟩ := F
  exact X.iaload hx (by rw [eT]; exact A.1) (State.isArrayOf_alike hZ.alike A.2.1) A.2.2 (hin_of r1 hj0 hj hi) (by rw [hj, r3 i hi, hv]) hg hs hd _ k
theorem rdJ (X : Stand p l e R s m args below meth c T locs cells slots) (hx : p.tables.exec = Jvm.exec) (hZ : Z.Warmed39 s.vm) (eT : T.heap = h) (F : Ara Z h a .long n f) (hj0 : ¬ j < 0) (hj : j.toNatClampNeg = i) (hi : i < n) (hv : f i = x) (hg : g.method = m) (hs : g.stack = .int j :: .ref a :: rest) (hd : decode c.code g.pc = .ok (.laload, 1))
    (k : Steps p.tables e below (T.setTop { g with pc := g.pc + 1, stack := x :: rest }) t) : Steps p.tables e below (T.setTop g) t := by
  obtain ⟨cl, A, r1, r2, r3⟩ := F
  exact X.laload hx (by rw [eT]; exact A.1) (State.isArrayOf_alike hZ.alike A.2.1) A.2.2 (hin_of r1 hj0 hj hi) (by rw [hj, r3 i hi, hv]) hg hs hd _ k
theorem rdR (X : Stand p l e R s m args below meth c T locs cells slots) (hx : p.tables.exec = Jvm.exec) (hZ : Z.Warmed39 s.vm) (eT : T.heap = h) (F : Ara Z h a ty n f) (hty : ty.isReference = true) (hj0 : ¬ j < 0) (hj : j.toNatClampNeg = i) (hi : i < n) (hv : f i = x) (hg : g.method = m) (hs : g.stack = .int j :: .ref a :: rest) (hd : decode c.code g.pc = .ok (.aaload, 1))
    (k : Steps p.tables e below (T.setTop { g with pc := g.pc + 1, stack := x :: rest }) t) : Steps p.tables e below (T.setTop g) t := by
  obtain ⟨cl, A, r1, r2, r3⟩ := F
  exact X.aaload hx (by rw [eT]; exact A.1) (State.isArrayOf_alike hZ.alike A.2.1) hty A.2.2 (hin_of r1 hj0 hj hi) (by rw [hj, r3 i hi, hv]) hg hs hd _ k
theorem alen (X : Stand p l e R s m args below meth c T locs cells slots) (hx : p.tables.exec = Jvm.exec) (hZ : Z.Warmed39 s.vm) (eT : T.heap = h) (F : Ara Z h a ty n f) {z : Int32} (hz : n.toInt32 = z) (hg : g.method = m) (hs : g.stack = .ref a :: rest) (hd : decode c.code g.pc = .ok (.arraylength, 1))
    (k : Steps p.tables e below (T.setTop { g with pc := g.pc + 1, stack := .int z :: rest }) t) : Steps p.tables e below (T.setTop g) t := by
  obtain ⟨cl, A, r1, r2, r3⟩ := F
  refine X.arraylength hx (by rw [eT]; exact A.1) (State.isArrayOf_alike hZ.alike A.2.1) hg hs hd _ ?_
  rw [r1, hz]; exact k
theorem wrB (X : Stand p l e R s m args below meth c T locs cells slots) (hx : p.tables.exec = Jvm.exec) (hZ : Z.Warmed39 s.vm) (eT : T.heap = h) (F : Ara Z h a .byte n f) {y : Int32} (hj0 : ¬ j < 0) (hj : j.toNatClampNeg = i) (hi : i < n) {y' : Int32} (hy : nar .byte y = y') (hg : g.method = m) (hs : g.stack = .int y :: .int j :: .ref a :: rest) (hd : decode c.code g.pc = .ok (.bastore, 1)) :
    ∃ T' h', Stand p l e R s m args below meth c T' (locs ++ [⟨a, i⟩]) cells slots ∧ T'.heap = h' ∧ Wr h h' a i (.int y') ∧ ∀ target, Steps p.tables e below (T'.setTop { g with pc := g.pc + 1, stack := rest }) target → Steps p.tables e below (T.setTop g) target := by
  subst hj hy
  obtain ⟨cl, A, r1, r2, r3⟩ := F
  exact stB X hx hZ eT A (hin_of r1 hj0 rfl hi) hg hs hd
theorem wrI (X : Stand p l e R s m args below meth c T locs cells slots) (hx : p.tables.exec = Jvm.exec) (hZ : Z.Warmed39 s.vm) (eT : T.heap = h) (F : Ara Z h a .int n f) {y : Int32} (hj0 : ¬ j < 0) (hj : j.toNatClampNeg = i) (hi : i < n) (hg : g.method = m) (hs : g.stack = .int y :: .int j :: .ref a :: rest) (hd : decode c.code g.pc = .ok (.iastore, 1)) :
    ∃ T' h', Stand p l e R s m args below meth c T' (locs ++ [⟨a, i⟩]) cells slots ∧ T'.heap = h' ∧ Wr h h' a i (.int y) ∧ ∀ target, Steps p.tables e below (T'.setTop { g with pc := g.pc + 1, stack := rest }) target → Steps p.tables e below (T.setTop g) target := by
  subst hj
  obtain ⟨cl, A, r1, r2, r3⟩ := F
  exact stI X hx hZ eT A (hin_of r1 hj0 rfl hi) hg hs hd
theorem wrJ (X : Stand p l e R s m args below meth c T locs cells slots) (hx : p.tables.exec = Jvm.exec) (hZ : Z.Warmed39 s.vm) (eT : T.heap = h) (F : Ara Z h a .long n f) {y : Int64} (hj0 : ¬ j < 0) (hj : j.toNatClampNeg = i) (hi : i < n) (hg : g.method = m) (hs : g.stack = .long y :: .int j :: .ref a :: rest) (hd : decode c.code g.pc = .ok (.lastore, 1)) :
    ∃ T' h', Stand p l e R s m args below meth c T' (locs ++ [⟨a, i⟩]) cells slots ∧ T'.heap = h' ∧ Wr h h' a i (.long y) ∧ ∀ target, Steps p.tables e below (T'.setTop { g with pc := g.pc + 1, stack := rest }) target → Steps p.tables e below (T.setTop g) target := by
  subst hj
  obtain ⟨cl, A, r1, r2, r3⟩ := F
  exact stJ X hx hZ eT A (hin_of r1 hj0 rfl hi) hg hs hd
end Ara
theorem wr_le {h h' : Heap} {a : Addr} {sl : Nat} {v : Value} (W : Wr h h' a sl v) : h.size ≤ h'.size := Nat.le_of_eq W.size.symm
theorem up_lt {k a b : Nat} (h : a < k) (g : b = k) : a ≠ b := by omega
theorem nar_b (y : Int32) : nar .byte y.toInt8.toInt32 = y.toInt8.toInt32 := by show y.toInt8.toInt32.toInt8.toInt32 = _; rw [Int8.toInt8_toInt32]
theorem Sta_keep {Z : State} {h h' : Heap} {C n d : String} {v : Value} {ws : List Addr} {k : Nat} (F : Sta Z h C n d v) (K : Keep h h' ws) (q : ∀ x ∈ ws, Z.heap.size ≤ x) (hst : ∀ cf kk i f st, Z.fieldFound? C n d = some (cf, kk, i, f) → kk.statics = some st → st < Z.heap.size) : Sta Z h' C n d v := by
  obtain ⟨cf, i, kk, f, st, cell, h1, h2, h3, h4, h5, r⟩ := F
  exact ⟨cf, i, kk, f, st, cell, h1, h2, h3, h4, K.2.1 _ _ h5 (fun z => absurd (hst _ _ _ _ _ h1 h4) (Nat.not_lt.mpr (q _ z))), r⟩
theorem eqv_r {Z : State} {args : Array Value} {X F : Term} {idx : List Nat} {y : Addr} (hF : F.eval args Z none idx Z = some (.ref y)) (h : (Cond.eq X F).value args Z none Z idx = some true) : X.eval args Z none idx Z = some (.ref y) := by
  cases hx : X.eval args Z none idx Z with
  | none => simp [Cond.value, hF, hx] at h
  | some x => cases x <;> simp [Cond.value, hF, hx] at h ⊢ <;> exact h
/-! calls by a contract, in one piece -/
section Calls
variable {p : Program} {l : Launch} {e : Env} {R : Room} {s : State} {m : MethodId} {args : Array Value} {below : List Frame} {meth : Method} {c : Code} {T : State} {locs : List Loc} {cells slots : Nat} {Z : State} {a0 : Array Value} {h : Heap}
abbrev Meets1 (l : Launch) (y : MethodName) (bytes : ByteArray) (maxL : Nat) (ret : Option FieldType) (rm : Room) (Z : State) (as' : Array Value) (h : Heap) (Q : Option Value → Heap → List Loc → Prop) : Prop :=
  MetFree l y (head1 [Cond.code y bytes maxL ret] rm) (fun a U => a = as' ∧ Z.Warmed39 U.vm ∧ U.heap = h) (fun _ _ _ _ _ => True) (fun _ U o U' => ∃ v L, o = .returned v ∧ Q v U'.heap L ∧ FrameEnd U o U' L rm.cells rm.slots)
theorem callQ (X : Stand p l e R s m args below meth c T locs cells slots) (hx : p.tables.exec = Jvm.exec) (hZ : Z.Warmed39 s.vm) {own : String} {index : Nat} {y : MethodName} {bytes : ByteArray} {maxL : Nat} {ret : Option FieldType} (hown : s.vm.findClass own = some m.cls)
    (w1 : (Cond.methodLink own index y).before a0 Z = true) (w2 : (Cond.static y).before a0 Z = true) (w3 : (Cond.initialized y.cls).before a0 Z = true) (w4 : (Cond.code y bytes maxL ret).before a0 Z = true) (hy : y.cls ≠ "java/lang/invoke/MethodHandle" ∧ y.cls ≠ "java/lang/invoke/VarHandle")
    {rm : Room} {argsL rest : List Value} {Q : Option Value → Heap → List Loc → Prop} (hM : Meets1 l y bytes maxL ret rm Z argsL.toArray h Q) {W : Nat} (hf : rm.frames + 1 ≤ R.frames) (hl : W + (maxL + 11) + rm.locals ≤ R.locals) (eT : T.heap = h)
    {g : JFrame} (hg : g.method = m) (hsize : g.locals.size = c.maxLocals) (hlen : ∀ sig, parseMethodDescriptor y.desc = some sig → argsL.length = sig.parameters.length) (hstack : g.stack = argsL.reverse ++ rest) (hW : 2 * g.monitorRoom + (rest.map fun v => v.category).sum ≤ W) (hd : decode c.code g.pc = .ok (.invokestatic index, 3)) (hc : cells + rm.cells ≤ R.cells) (hs : slots + rm.slots ≤ R.slots) :
    ∃ v T' L, Stand p l e R s m args below meth c T' (locs ++ L) (cells + rm.cells) (slots + rm.slots) ∧ Q v T'.heap L ∧ ∀ target, Steps p.tables e below (T'.setTop { g with pc := g.pc + 3, stack := v.toList ++ rest }) target → Steps p.tables e below (T.setTop g) target := by
  obtain ⟨v, _, ⟨T', L', k', n'⟩, -, X', ⟨L, hQ, hl', hk', hn'⟩, st⟩ := Jvm.LawKit.callS X hx hown (mvT hZ w1) (mvT hZ w2) (mvT hZ w3) (mvT hZ w4) hy (backOf (W := W) hM hZ w4 w3 hf hl) hg hsize hlen hstack hW hd (fun _ _ => ⟨rfl, eT, hc, hs⟩)
  dsimp only [Pt.U, Pt.locs, Pt.cells, Pt.slots] at X' hl' hk' hn' st hQ
  subst hl' hk' hn'
  exact ⟨v, T', L, X', hQ, st⟩
theorem specQ (X : Stand p l e R s m args below meth c T locs cells slots) (hx : p.tables.exec = Jvm.exec) (hZ : Z.Warmed39 s.vm) {own : String} {index : Nat} {y : MethodName} {bytes : ByteArray} {maxL : Nat} (hy1 : y.name = "<init>") (hown : s.vm.findClass own = some m.cls)
    (w1 : (Cond.methodLink own index y).before a0 Z = true) (w2 : (Cond.instanceMethod y).before a0 Z = true) (w3 : (Cond.initialized y.cls).before a0 Z = true) (w4 : (Cond.code y bytes maxL none).before a0 Z = true) (hy : y.cls ≠ "java/lang/invoke/MethodHandle" ∧ y.cls ≠ "java/lang/invoke/VarHandle")
    {rm : Room} {a : Addr} {argsL rest : List Value} {Q : Option Value → Heap → List Loc → Prop} (hM : Meets1 l y bytes maxL none rm Z (.ref a :: argsL).toArray h Q) {W : Nat} (hf : rm.frames + 1 ≤ R.frames) (hl : W + (maxL + 11) + rm.locals ≤ R.locals) (eT : T.heap = h)
    {g : JFrame} (hg : g.method = m) (hsize : g.locals.size = c.maxLocals) (hlen : ∀ sig, parseMethodDescriptor y.desc = some sig → argsL.length = sig.parameters.length) (hstack : g.stack = argsL.reverse ++ .ref a :: rest) (hW : 2 * g.monitorRoom + (rest.map fun v => v.category).sum ≤ W) (hd : decode c.code g.pc = .ok (.invokespecial index, 3)) (hc : cells + rm.cells ≤ R.cells) (hs : slots + rm.slots ≤ R.slots) :
    ∃ v T' L, Stand p l e R s m args below meth c T' (locs ++ L) (cells + rm.cells) (slots + rm.slots) ∧ Q v T'.heap L ∧ ∀ target, Steps p.tables e below (T'.setTop { g with pc := g.pc + 3, stack := v.toList ++ rest }) target → Steps p.tables e below (T.setTop g) target := by
  obtain ⟨v, _, ⟨T', L', k', n'⟩, -, X', ⟨L, hQ, hl', hk', hn'⟩, st⟩ := X.specialBack hx hy1 hown (mvT hZ w1) (mvT hZ w2) (mvT hZ w4) hy (backOf (W := W) hM hZ w4 w3 hf hl) hg hsize (Steps.refl _) hlen hstack hW hd (fun _ _ => ⟨rfl, eT, hc, hs⟩)
  dsimp only [Pt.U, Pt.locs, Pt.cells, Pt.slots] at X' hl' hk' hn' st hQ
  subst hl' hk' hn'
  exact ⟨v, T', L, X', hQ, fun t k => st.trans k⟩
theorem virtQ (X : Stand p l e R s m args below meth c T locs cells slots) (hx : p.tables.exec = Jvm.exec) (hZ : Z.Warmed39 s.vm) {own : String} {index : Nat} {y : MethodName} {bytes : ByteArray} {maxL : Nat} {ret : Option FieldType} (hown : s.vm.findClass own = some m.cls)
    (w1 : (Cond.methodLink own index y).before a0 Z = true) (w2 : (Cond.instanceMethod y).before a0 Z = true) (w3 : (Cond.initialized y.cls).before a0 Z = true) (w4 : (Cond.code y bytes maxL ret).before a0 Z = true) (w5 : (Cond.declares y).before a0 Z = true) (w6 : (Cond.selects y.cls y y).before a0 Z = true) (hy : y.cls ≠ "java/lang/invoke/MethodHandle" ∧ y.cls ≠ "java/lang/invoke/VarHandle")
    {rm : Room} {a : Addr} (E : Exa Z h a y.cls) {argsL rest : List Value} {Q : Option Value → Heap → List Loc → Prop} (hM : Meets1 l y bytes maxL ret rm Z (.ref a :: argsL).toArray h Q) {W : Nat} (hf : rm.frames + 1 ≤ R.frames) (hl : W + (maxL + 11) + rm.locals ≤ R.locals) (eT : T.heap = h)
    {g : JFrame} (hg : g.method = m) (hsize : g.locals.size = c.maxLocals) (hlen : ∀ sig, parseMethodDescriptor y.desc = some sig → argsL.length = sig.parameters.length) (hstack : g.stack = argsL.reverse ++ .ref a :: rest) (hW : 2 * g.monitorRoom + (rest.map fun v => v.category).sum ≤ W) (hd : decode c.code g.pc = .ok (.invokevirtual index, 3)) (hc : cells + rm.cells ≤ R.cells) (hs : slots + rm.slots ≤ R.slots) :
    ∃ v T' L, Stand p l e R s m args below meth c T' (locs ++ L) (cells + rm.cells) (slots + rm.slots) ∧ Q v T'.heap L ∧ ∀ target, Steps p.tables e below (T'.setTop { g with pc := g.pc + 3, stack := v.toList ++ rest }) target → Steps p.tables e below (T.setTop g) target := by
  obtain ⟨cq, kq, qa, qb, qc⟩ := isOf hZ eT E
  obtain ⟨v, _, ⟨T', L', k', n'⟩, -, X', ⟨L, hQ, hl', hk', hn'⟩, st⟩ := X.virtualBack hx (y := y) (z := y) hown (mvT hZ w1) (mvT hZ w5) (notFace_of_selects (args := #[]) (mvT hZ w6)) (mvT hZ w6) (mvT hZ w2) hy (backOf (W := W) hM hZ w4 w3 hf hl) qa qc hg hsize (Steps.refl _) hlen hstack hW hd (fun _ _ => ⟨rfl, eT, hc, hs⟩)
  dsimp only [Pt.U, Pt.locs, Pt.cells, Pt.slots] at X' hl' hk' hn' st hQ
  subst hl' hk' hn'
  exact ⟨v, T', L, X', hQ, fun t k => st.trans k⟩
theorem privQ (X : Stand p l e R s m args below meth c T locs cells slots) (hx : p.tables.exec = Jvm.exec) (hZ : Z.Warmed39 s.vm) {own : String} {index : Nat} {y : MethodName} {bytes : ByteArray} {maxL : Nat} {ret : Option FieldType} (hown : s.vm.findClass own = some m.cls)
    (w1 : (Cond.methodLink own index y).before a0 Z = true) (w2 : (Cond.instanceMethod y).before a0 Z = true) (w3 : (Cond.initialized y.cls).before a0 Z = true) (w4 : (Cond.code y bytes maxL ret).before a0 Z = true) (w5 : (Cond.privateMethod y).before a0 Z = true) (w6 : (Cond.selects y.cls y y).before a0 Z = true) (hy : y.cls ≠ "java/lang/invoke/MethodHandle" ∧ y.cls ≠ "java/lang/invoke/VarHandle")
    {rm : Room} {a : Addr} {C : String} (E : Exa Z h a C) {argsL rest : List Value} {Q : Option Value → Heap → List Loc → Prop} (hM : Meets1 l y bytes maxL ret rm Z (.ref a :: argsL).toArray h Q) {W : Nat} (hf : rm.frames + 1 ≤ R.frames) (hl : W + (maxL + 11) + rm.locals ≤ R.locals) (eT : T.heap = h)
    {g : JFrame} (hg : g.method = m) (hsize : g.locals.size = c.maxLocals) (hlen : ∀ sig, parseMethodDescriptor y.desc = some sig → argsL.length = sig.parameters.length) (hstack : g.stack = argsL.reverse ++ .ref a :: rest) (hW : 2 * g.monitorRoom + (rest.map fun v => v.category).sum ≤ W) (hd : decode c.code g.pc = .ok (.invokevirtual index, 3)) (hc : cells + rm.cells ≤ R.cells) (hs : slots + rm.slots ≤ R.slots) :
    ∃ v T' L, Stand p l e R s m args below meth c T' (locs ++ L) (cells + rm.cells) (slots + rm.slots) ∧ Q v T'.heap L ∧ ∀ target, Steps p.tables e below (T'.setTop { g with pc := g.pc + 3, stack := v.toList ++ rest }) target → Steps p.tables e below (T.setTop g) target := by
  obtain ⟨cq, q1, q2⟩ := E.cell
  obtain ⟨v, _, ⟨T', L', k', n'⟩, -, X', ⟨L, hQ, hl', hk', hn'⟩, st⟩ := X.privateBack hx (y := y) hown (mvT hZ w1) (mvT hZ w2) (mvT hZ w6) (Cond.privateMethod_at (mvP hZ w5 (args := #[]))) (mvT hZ w4) hy (backOf (W := W) hM hZ w4 w3 hf hl) hg hsize (Steps.refl _) (a := a) (by rw [eT]; exact q1) q2 hlen hstack hW hd (fun _ _ => ⟨rfl, eT, hc, hs⟩)
  dsimp only [Pt.U, Pt.locs, Pt.cells, Pt.slots] at X' hl' hk' hn' st hQ
  subst hl' hk' hn'
  exact ⟨v, T', L, X', hQ, fun t k => st.trans k⟩
end Calls
theorem d2_0 : decode method_2_code 0 = .ok (.iload_n 0, 1) := by decide +kernel
theorem d2_1 : decode method_2_code 1 = .ok (.bipush 97, 2) := by decide +kernel
theorem d2_3 : decode method_2_code 3 = .ok (.if_icmp .lt 11, 3) := by decide +kernel
theorem d2_6 : decode method_2_code 6 = .ok (.iload_n 0, 1) := by decide +kernel
theorem d2_7 : decode method_2_code 7 = .ok (.bipush 122, 2) := by decide +kernel
theorem d2_9 : decode method_2_code 9 = .ok (.if_icmp .gt 5, 3) := by decide +kernel
theorem d2_12 : decode method_2_code 12 = .ok (.iconst 1, 1) := by decide +kernel
theorem d2_13 : decode method_2_code 13 = .ok (.ireturn, 1) := by decide +kernel
theorem d2_14 : decode method_2_code 14 = .ok (.iload_n 0, 1) := by decide +kernel
theorem d2_15 : decode method_2_code 15 = .ok (.bipush 65, 2) := by decide +kernel
theorem d2_17 : decode method_2_code 17 = .ok (.if_icmp .lt 11, 3) := by decide +kernel
theorem d2_20 : decode method_2_code 20 = .ok (.iload_n 0, 1) := by decide +kernel
theorem d2_21 : decode method_2_code 21 = .ok (.bipush 90, 2) := by decide +kernel
theorem d2_23 : decode method_2_code 23 = .ok (.if_icmp .gt 5, 3) := by decide +kernel
theorem d2_26 : decode method_2_code 26 = .ok (.iconst 1, 1) := by decide +kernel
theorem d2_27 : decode method_2_code 27 = .ok (.ireturn, 1) := by decide +kernel
theorem d2_28 : decode method_2_code 28 = .ok (.iload_n 0, 1) := by decide +kernel
theorem d2_29 : decode method_2_code 29 = .ok (.sipush 192, 3) := by decide +kernel
theorem d2_32 : decode method_2_code 32 = .ok (.if_icmp .lt 12, 3) := by decide +kernel
theorem d2_35 : decode method_2_code 35 = .ok (.iload_n 0, 1) := by decide +kernel
theorem d2_36 : decode method_2_code 36 = .ok (.sipush 214, 3) := by decide +kernel
theorem d2_39 : decode method_2_code 39 = .ok (.if_icmp .gt 5, 3) := by decide +kernel
theorem d2_42 : decode method_2_code 42 = .ok (.iconst 1, 1) := by decide +kernel
theorem d2_43 : decode method_2_code 43 = .ok (.ireturn, 1) := by decide +kernel
theorem d2_44 : decode method_2_code 44 = .ok (.iload_n 0, 1) := by decide +kernel
theorem d2_45 : decode method_2_code 45 = .ok (.sipush 216, 3) := by decide +kernel
theorem d2_48 : decode method_2_code 48 = .ok (.if_icmp .lt 12, 3) := by decide +kernel
theorem d2_51 : decode method_2_code 51 = .ok (.iload_n 0, 1) := by decide +kernel
theorem d2_52 : decode method_2_code 52 = .ok (.sipush 246, 3) := by decide +kernel
theorem d2_55 : decode method_2_code 55 = .ok (.if_icmp .gt 5, 3) := by decide +kernel
theorem d2_58 : decode method_2_code 58 = .ok (.iconst 1, 1) := by decide +kernel
theorem d2_59 : decode method_2_code 59 = .ok (.ireturn, 1) := by decide +kernel
theorem d2_60 : decode method_2_code 60 = .ok (.iload_n 0, 1) := by decide +kernel
theorem d2_61 : decode method_2_code 61 = .ok (.sipush 248, 3) := by decide +kernel
theorem d2_64 : decode method_2_code 64 = .ok (.if_icmp .lt 12, 3) := by decide +kernel
theorem d2_67 : decode method_2_code 67 = .ok (.iload_n 0, 1) := by decide +kernel
theorem d2_68 : decode method_2_code 68 = .ok (.sipush 767, 3) := by decide +kernel
theorem d2_71 : decode method_2_code 71 = .ok (.if_icmp .gt 5, 3) := by decide +kernel
theorem d2_74 : decode method_2_code 74 = .ok (.iconst 1, 1) := by decide +kernel
theorem d2_75 : decode method_2_code 75 = .ok (.ireturn, 1) := by decide +kernel
theorem d2_76 : decode method_2_code 76 = .ok (.iload_n 0, 1) := by decide +kernel
theorem d2_77 : decode method_2_code 77 = .ok (.sipush 880, 3) := by decide +kernel
theorem d2_80 : decode method_2_code 80 = .ok (.if_icmp .lt 12, 3) := by decide +kernel
theorem d2_83 : decode method_2_code 83 = .ok (.iload_n 0, 1) := by decide +kernel
theorem d2_84 : decode method_2_code 84 = .ok (.sipush 893, 3) := by decide +kernel
theorem d2_87 : decode method_2_code 87 = .ok (.if_icmp .gt 5, 3) := by decide +kernel
theorem d2_90 : decode method_2_code 90 = .ok (.iconst 1, 1) := by decide +kernel
theorem d2_91 : decode method_2_code 91 = .ok (.ireturn, 1) := by decide +kernel
theorem d2_92 : decode method_2_code 92 = .ok (.iload_n 0, 1) := by decide +kernel
theorem d2_93 : decode method_2_code 93 = .ok (.sipush 895, 3) := by decide +kernel
theorem d2_96 : decode method_2_code 96 = .ok (.if_icmp .lt 12, 3) := by decide +kernel
theorem d2_99 : decode method_2_code 99 = .ok (.iload_n 0, 1) := by decide +kernel
theorem d2_100 : decode method_2_code 100 = .ok (.sipush 8191, 3) := by decide +kernel
theorem d2_103 : decode method_2_code 103 = .ok (.if_icmp .gt 5, 3) := by decide +kernel
theorem d2_106 : decode method_2_code 106 = .ok (.iconst 1, 1) := by decide +kernel
theorem d2_107 : decode method_2_code 107 = .ok (.ireturn, 1) := by decide +kernel
theorem d2_108 : decode method_2_code 108 = .ok (.iload_n 0, 1) := by decide +kernel
theorem d2_109 : decode method_2_code 109 = .ok (.sipush 8204, 3) := by decide +kernel
theorem d2_112 : decode method_2_code 112 = .ok (.if_icmp .lt 12, 3) := by decide +kernel
theorem d2_115 : decode method_2_code 115 = .ok (.iload_n 0, 1) := by decide +kernel
theorem d2_116 : decode method_2_code 116 = .ok (.sipush 8205, 3) := by decide +kernel
theorem d2_119 : decode method_2_code 119 = .ok (.if_icmp .gt 5, 3) := by decide +kernel
theorem d2_122 : decode method_2_code 122 = .ok (.iconst 1, 1) := by decide +kernel
theorem d2_123 : decode method_2_code 123 = .ok (.ireturn, 1) := by decide +kernel
theorem d2_124 : decode method_2_code 124 = .ok (.iload_n 0, 1) := by decide +kernel
theorem d2_125 : decode method_2_code 125 = .ok (.sipush 8304, 3) := by decide +kernel
theorem d2_128 : decode method_2_code 128 = .ok (.if_icmp .lt 12, 3) := by decide +kernel
theorem d2_131 : decode method_2_code 131 = .ok (.iload_n 0, 1) := by decide +kernel
theorem d2_132 : decode method_2_code 132 = .ok (.sipush 8591, 3) := by decide +kernel
theorem d2_135 : decode method_2_code 135 = .ok (.if_icmp .gt 5, 3) := by decide +kernel
theorem d2_138 : decode method_2_code 138 = .ok (.iconst 1, 1) := by decide +kernel
theorem d2_139 : decode method_2_code 139 = .ok (.ireturn, 1) := by decide +kernel
theorem d2_140 : decode method_2_code 140 = .ok (.iload_n 0, 1) := by decide +kernel
theorem d2_141 : decode method_2_code 141 = .ok (.sipush 11264, 3) := by decide +kernel
theorem d2_144 : decode method_2_code 144 = .ok (.if_icmp .lt 12, 3) := by decide +kernel
theorem d2_147 : decode method_2_code 147 = .ok (.iload_n 0, 1) := by decide +kernel
theorem d2_148 : decode method_2_code 148 = .ok (.sipush 12271, 3) := by decide +kernel
theorem d2_151 : decode method_2_code 151 = .ok (.if_icmp .gt 5, 3) := by decide +kernel
theorem d2_154 : decode method_2_code 154 = .ok (.iconst 1, 1) := by decide +kernel
theorem d2_155 : decode method_2_code 155 = .ok (.ireturn, 1) := by decide +kernel
theorem d2_156 : decode method_2_code 156 = .ok (.iload_n 0, 1) := by decide +kernel
theorem d2_157 : decode method_2_code 157 = .ok (.sipush 12289, 3) := by decide +kernel
theorem d2_160 : decode method_2_code 160 = .ok (.if_icmp .lt 11, 3) := by decide +kernel
theorem d2_163 : decode method_2_code 163 = .ok (.iload_n 0, 1) := by decide +kernel
theorem d2_164 : decode method_2_code 164 = .ok (.ldc 7, 2) := by decide +kernel
theorem d2_166 : decode method_2_code 166 = .ok (.if_icmp .gt 5, 3) := by decide +kernel
theorem d2_169 : decode method_2_code 169 = .ok (.iconst 1, 1) := by decide +kernel
theorem d2_170 : decode method_2_code 170 = .ok (.ireturn, 1) := by decide +kernel
theorem d2_171 : decode method_2_code 171 = .ok (.iload_n 0, 1) := by decide +kernel
theorem d2_172 : decode method_2_code 172 = .ok (.ldc 8, 2) := by decide +kernel
theorem d2_174 : decode method_2_code 174 = .ok (.if_icmp .lt 11, 3) := by decide +kernel
theorem d2_177 : decode method_2_code 177 = .ok (.iload_n 0, 1) := by decide +kernel
theorem d2_178 : decode method_2_code 178 = .ok (.ldc 9, 2) := by decide +kernel
theorem d2_180 : decode method_2_code 180 = .ok (.if_icmp .gt 5, 3) := by decide +kernel
theorem d2_183 : decode method_2_code 183 = .ok (.iconst 1, 1) := by decide +kernel
theorem d2_184 : decode method_2_code 184 = .ok (.ireturn, 1) := by decide +kernel
theorem d2_185 : decode method_2_code 185 = .ok (.iload_n 0, 1) := by decide +kernel
theorem d2_186 : decode method_2_code 186 = .ok (.ldc 10, 2) := by decide +kernel
theorem d2_188 : decode method_2_code 188 = .ok (.if_icmp .lt 11, 3) := by decide +kernel
theorem d2_191 : decode method_2_code 191 = .ok (.iload_n 0, 1) := by decide +kernel
theorem d2_192 : decode method_2_code 192 = .ok (.ldc 11, 2) := by decide +kernel
theorem d2_194 : decode method_2_code 194 = .ok (.if_icmp .gt 5, 3) := by decide +kernel
theorem d2_197 : decode method_2_code 197 = .ok (.iconst 1, 1) := by decide +kernel
theorem d2_198 : decode method_2_code 198 = .ok (.ireturn, 1) := by decide +kernel
theorem d2_199 : decode method_2_code 199 = .ok (.iload_n 0, 1) := by decide +kernel
theorem d2_200 : decode method_2_code 200 = .ok (.ldc 12, 2) := by decide +kernel
theorem d2_202 : decode method_2_code 202 = .ok (.if_icmp .lt 11, 3) := by decide +kernel
theorem d2_205 : decode method_2_code 205 = .ok (.iload_n 0, 1) := by decide +kernel
theorem d2_206 : decode method_2_code 206 = .ok (.ldc 13, 2) := by decide +kernel
theorem d2_208 : decode method_2_code 208 = .ok (.if_icmp .gt 5, 3) := by decide +kernel
theorem d2_211 : decode method_2_code 211 = .ok (.iconst 1, 1) := by decide +kernel
theorem d2_212 : decode method_2_code 212 = .ok (.ireturn, 1) := by decide +kernel
theorem d2_213 : decode method_2_code 213 = .ok (.iconst 0, 1) := by decide +kernel
theorem d2_214 : decode method_2_code 214 = .ok (.ireturn, 1) := by decide +kernel
def fRef (u0 : Int32) : Int32 := bi ((¬ (u0 < (97 : Int32)) ∧ (¬ ((122 : Int32) < u0))) ∨ ((¬ (u0 < (65 : Int32)) ∧ (¬ ((90 : Int32) < u0))) ∨ ((¬ (u0 < (192 : Int32)) ∧ (¬ ((214 : Int32) < u0))) ∨ ((¬ (u0 < (216 : Int32)) ∧ (¬ ((246 : Int32) < u0))) ∨ ((¬ (u0 < (248 : Int32)) ∧ (¬ ((767 : Int32) < u0))) ∨ ((¬ (u0 < (880 : Int32)) ∧ (¬ ((893 : Int32) < u0))) ∨ ((¬ (u0 < (895 : Int32)) ∧ (¬ ((8191 : Int32) < u0))) ∨ ((¬ (u0 < (8204 : Int32)) ∧ (¬ ((8205 : Int32) < u0))) ∨ ((¬ (u0 < (8304 : Int32)) ∧ (¬ ((8591 : Int32) < u0))) ∨ ((¬ (u0 < (11264 : Int32)) ∧ (¬ ((12271 : Int32) < u0))) ∨ ((¬ (u0 < (12289 : Int32)) ∧ (¬ ((55295 : Int32) < u0))) ∨ ((¬ (u0 < (63744 : Int32)) ∧ (¬ ((64975 : Int32) < u0))) ∨ ((¬ (u0 < (65008 : Int32)) ∧ (¬ ((65533 : Int32) < u0))) ∨ (¬ (u0 < (65536 : Int32)) ∧ (¬ ((983039 : Int32) < u0))))))))))))))))
theorem ef_rm2 (m : MethodId) (u0 : Int32) : entryFrame m #[(.int u0)] 1 = mkF m 0 #[.val (.int u0)] [] := by first | (simp [entryFrame, mkF, argsToLocals, Value.category]; done) | rfl
theorem pn_0 : plainName "com/example/godwit/godwit/model/QualifiedNameIsNameLetterPinLaw" = true := by first | (simp [plainName, overriddenIn]; done) | decide +kernel
def Q_rm2 (Z : State) (u0 : Int32)  (h0 : Heap) (n0 : Nat) (v : Option Value) (h : Heap) (L : List Loc) : Prop := v = some (Value.int (fRef u0)) ∧ Fr n0 L ∧ h = h0
set_option maxRecDepth 65536 in
set_option maxHeartbeats 40000000 in
theorem rm2 (l : Launch) (Z : State) (a0 : Array Value) (hw : ∀ d ∈ tables_1, d.before a0 Z = true) (ws : List Jvm.Cond) (u0 : Int32)  (h0 : Heap) (n0 : Nat) (Z0 : n0 ≤ h0.size)  :
    MetFree l (⟨"com/example/godwit/godwit/model/QualifiedNameIsNameLetterPinLaw", "ref", "(I)Z"⟩ : MethodName) (head1 (Jvm.Cond.code (⟨"com/example/godwit/godwit/model/QualifiedNameIsNameLetterPinLaw", "ref", "(I)Z"⟩ : MethodName) method_2_code 1 (some .boolean) :: ws) ({ frames := 0, cells := 0, slots := 0, locals := 0 } : Room)) (fun a U => a = #[(.int u0)] ∧ Z.Warmed39 U.vm ∧ U.heap = h0) (fun _ _ _ _ _ => True) (fun _ U o U' => ∃ v L, o = .returned v ∧ (Q_rm2 Z u0 h0 n0) v U'.heap L ∧ FrameEnd U o U' L ({ frames := 0, cells := 0, slots := 0, locals := 0 } : Room).cells ({ frames := 0, cells := 0, slots := 0, locals := 0 } : Room).slots) := by
  refine MetFree.of_bodySF (plainFor_of_name pn_0) hisR ?_
  intro p e s m args below meth c s₁ Bd hml0 hP hK
  obtain ⟨rfl, hZ, hh⟩ := hP
  have hx := Bd.exec
  have hby := Bd.bytes
  have hml : c.maxLocals = 1 := hml0
  have hown : s.vm.findClass "com/example/godwit/godwit/model/QualifiedNameIsNameLetterPinLaw" = some m.cls := findClass_of_methodNamed Bd.named
  have hnm := (name_of_methodNamed Bd.named Bd.method).1
  have X0 : Stand p l e ({ frames := 0, cells := 0, slots := 0, locals := 0 } : Room) s m #[(.int u0)] below meth c s₁ [] 0 0 := Stand.of_body Bd
  have e0 : s₁.heap = h0 := by rw [← hh, Bd.state]; rfl
  have N0 := Fr.nil n0
  show OFin p e below (ORet (Q_rm2 Z u0 h0 n0) s ({ frames := 0, cells := 0, slots := 0, locals := 0 } : Room).cells ({ frames := 0, cells := 0, slots := 0, locals := 0 } : Room).slots) (s₁.setTop (entryFrame m #[(.int u0)] 1))
  refine OFin.go (fun t k => castTop (ef_rm2 m u0) k) ?_
  show OFin p e below (ORet (Q_rm2 Z u0 h0 n0) s ({ frames := 0, cells := 0, slots := 0, locals := 0 } : Room).cells ({ frames := 0, cells := 0, slots := 0, locals := 0 } : Room).slots) (s₁.setTop (mkF m 0 #[.val (.int u0)] []))
  have S1 : ∀ t, Steps p.tables e below (s₁.setTop (mkF m 3 #[.val (.int u0)] [(.int (97 : Int32)), (.int u0)])) t → Steps p.tables e below (s₁.setTop (mkF m 0 #[.val (.int u0)] [])) t := by
    intro t k
    show Steps p.tables e below (s₁.setTop (mkF m 0 #[.val (.int u0)] [])) t
    refine XS.iloadN X0.here hx rfl (hb hby d2_0) rfl ?_
    show Steps p.tables e below (s₁.setTop (mkF m 1 #[.val (.int u0)] [(.int u0)])) t
    refine XS.bipush X0.here hx rfl (hb hby d2_1) ?_
    exact k
  refine OFin.go S1 ?_
  by_cases h2 : (¬ (u0 < (97 : Int32)) ∧ (¬ ((122 : Int32) < u0)))
  ·
    by_cases h3 : (u0 < (97 : Int32))
    · -- pc 3: (u0 < (97 : Int32))
      have S4 : ∀ t, Steps p.tables e below (s₁.setTop (mkF m 14 #[.val (.int u0)] [])) t → Steps p.tables e below (s₁.setTop (mkF m 3 #[.val (.int u0)] [(.int (97 : Int32)), (.int u0)])) t := by
        intro t k
        show Steps p.tables e below (s₁.setTop (mkF m 3 #[.val (.int u0)] [(.int (97 : Int32)), (.int u0)])) t
        refine XS.icmpYes X0.here hx rfl (pc0 := 3) (pc' := 14) rfl (hb hby d2_3) rfl (tlt h3).1 (by decide) (by decide) ?_
        exact k
      refine OFin.go S4 ?_
      exact absurd h2 (fun q => q.1 h3)
    · -- pc 3: not (u0 < (97 : Int32))
      have S5 : ∀ t, Steps p.tables e below (s₁.setTop (mkF m 6 #[.val (.int u0)] [])) t → Steps p.tables e below (s₁.setTop (mkF m 3 #[.val (.int u0)] [(.int (97 : Int32)), (.int u0)])) t := by
        intro t k
        show Steps p.tables e below (s₁.setTop (mkF m 3 #[.val (.int u0)] [(.int (97 : Int32)), (.int u0)])) t
        refine XS.icmpNo X0.here hx rfl (hb hby d2_3) rfl (flt h3).1 ?_
        exact k
      refine OFin.go S5 ?_
      have S6 : ∀ t, Steps p.tables e below (s₁.setTop (mkF m 9 #[.val (.int u0)] [(.int (122 : Int32)), (.int u0)])) t → Steps p.tables e below (s₁.setTop (mkF m 6 #[.val (.int u0)] [])) t := by
        intro t k
        show Steps p.tables e below (s₁.setTop (mkF m 6 #[.val (.int u0)] [])) t
        refine XS.iloadN X0.here hx rfl (hb hby d2_6) rfl ?_
        show Steps p.tables e below (s₁.setTop (mkF m 7 #[.val (.int u0)] [(.int u0)])) t
        refine XS.bipush X0.here hx rfl (hb hby d2_7) ?_
        exact k
      refine OFin.go S6 ?_
      by_cases h7 : ((122 : Int32) < u0)
      · -- pc 9: ((122 : Int32) < u0)
        have S8 : ∀ t, Steps p.tables e below (s₁.setTop (mkF m 14 #[.val (.int u0)] [])) t → Steps p.tables e below (s₁.setTop (mkF m 9 #[.val (.int u0)] [(.int (122 : Int32)), (.int u0)])) t := by
          intro t k
          show Steps p.tables e below (s₁.setTop (mkF m 9 #[.val (.int u0)] [(.int (122 : Int32)), (.int u0)])) t
          refine XS.icmpYes X0.here hx rfl (pc0 := 9) (pc' := 14) rfl (hb hby d2_9) rfl (tlt h7).2.2.1 (by decide) (by decide) ?_
          exact k
        refine OFin.go S8 ?_
        exact absurd h2 (fun q => (fun q => q h7) q.2)
      · -- pc 9: not ((122 : Int32) < u0)
        have S9 : ∀ t, Steps p.tables e below (s₁.setTop (mkF m 12 #[.val (.int u0)] [])) t → Steps p.tables e below (s₁.setTop (mkF m 9 #[.val (.int u0)] [(.int (122 : Int32)), (.int u0)])) t := by
          intro t k
          show Steps p.tables e below (s₁.setTop (mkF m 9 #[.val (.int u0)] [(.int (122 : Int32)), (.int u0)])) t
          refine XS.icmpNo X0.here hx rfl (hb hby d2_9) rfl (flt h7).2.2.1 ?_
          exact k
        refine OFin.go S9 ?_
        have S10 : ∀ t, Steps p.tables e below (s₁.setTop (mkF m 13 #[.val (.int u0)] [(.int (1 : Int32))])) t → Steps p.tables e below (s₁.setTop (mkF m 12 #[.val (.int u0)] [])) t := by
          intro t k
          show Steps p.tables e below (s₁.setTop (mkF m 12 #[.val (.int u0)] [])) t
          refine XS.iconst X0.here hx rfl (hb hby d2_12) ?_
          exact k
        refine OFin.go S10 ?_
        exact finZ X0 hx Bd.notSynchronized (t := .boolean) Bd.returns (by simp) (hb hby d2_13) rfl (by decide) (by decide) (⟨congrArg (fun z => some (Value.int z)) (show (1 : Int32) = bi _ from (bi_t (Or.inl h2)).symm : (1 : Int32) = (fRef u0)), N0, e0⟩)
  ·
    have J11 : ∀ t, Steps p.tables e below (s₁.setTop (mkF m 14 #[.val (.int u0)] [])) t → Steps p.tables e below (s₁.setTop (mkF m 3 #[.val (.int u0)] [(.int (97 : Int32)), (.int u0)])) t := by
      intro t k
      show Steps p.tables e below (s₁.setTop (mkF m 3 #[.val (.int u0)] [(.int (97 : Int32)), (.int u0)])) t
      by_cases h12 : (u0 < (97 : Int32))
      · refine XS.icmpYes X0.here hx rfl (pc0 := 3) (pc' := 14) rfl (hb hby d2_3) rfl (tlt h12).1 (by decide) (by decide) ?_
        exact k
      · refine XS.icmpNo X0.here hx rfl (hb hby d2_3) rfl (flt h12).1 ?_
        show Steps p.tables e below (s₁.setTop (mkF m 6 #[.val (.int u0)] [])) t
        refine XS.iloadN X0.here hx rfl (hb hby d2_6) rfl ?_
        show Steps p.tables e below (s₁.setTop (mkF m 7 #[.val (.int u0)] [(.int u0)])) t
        refine XS.bipush X0.here hx rfl (hb hby d2_7) ?_
        show Steps p.tables e below (s₁.setTop (mkF m 9 #[.val (.int u0)] [(.int (122 : Int32)), (.int u0)])) t
        by_cases h13 : ((122 : Int32) < u0)
        · refine XS.icmpYes X0.here hx rfl (pc0 := 9) (pc' := 14) rfl (hb hby d2_9) rfl (tlt h13).2.2.1 (by decide) (by decide) ?_
          exact k
        · refine XS.icmpNo X0.here hx rfl (hb hby d2_9) rfl (flt h13).2.2.1 ?_
          show Steps p.tables e below (s₁.setTop (mkF m 12 #[.val (.int u0)] [])) t
          refine XS.iconst X0.here hx rfl (hb hby d2_12) ?_
          exact absurd ⟨h12, h13⟩ h2
    refine OFin.go J11 ?_
    have S14 : ∀ t, Steps p.tables e below (s₁.setTop (mkF m 17 #[.val (.int u0)] [(.int (65 : Int32)), (.int u0)])) t → Steps p.tables e below (s₁.setTop (mkF m 14 #[.val (.int u0)] [])) t := by
      intro t k
      show Steps p.tables e below (s₁.setTop (mkF m 14 #[.val (.int u0)] [])) t
      refine XS.iloadN X0.here hx rfl (hb hby d2_14) rfl ?_
      show Steps p.tables e below (s₁.setTop (mkF m 15 #[.val (.int u0)] [(.int u0)])) t
      refine XS.bipush X0.here hx rfl (hb hby d2_15) ?_
      exact k
    refine OFin.go S14 ?_
    by_cases h15 : (¬ (u0 < (65 : Int32)) ∧ (¬ ((90 : Int32) < u0)))
    ·
      by_cases h16 : (u0 < (65 : Int32))
      · -- pc 17: (u0 < (65 : Int32))
        have S17 : ∀ t, Steps p.tables e below (s₁.setTop (mkF m 28 #[.val (.int u0)] [])) t → Steps p.tables e below (s₁.setTop (mkF m 17 #[.val (.int u0)] [(.int (65 : Int32)), (.int u0)])) t := by
          intro t k
          show Steps p.tables e below (s₁.setTop (mkF m 17 #[.val (.int u0)] [(.int (65 : Int32)), (.int u0)])) t
          refine XS.icmpYes X0.here hx rfl (pc0 := 17) (pc' := 28) rfl (hb hby d2_17) rfl (tlt h16).1 (by decide) (by decide) ?_
          exact k
        refine OFin.go S17 ?_
        exact absurd h15 (fun q => q.1 h16)
      · -- pc 17: not (u0 < (65 : Int32))
        have S18 : ∀ t, Steps p.tables e below (s₁.setTop (mkF m 20 #[.val (.int u0)] [])) t → Steps p.tables e below (s₁.setTop (mkF m 17 #[.val (.int u0)] [(.int (65 : Int32)), (.int u0)])) t := by
          intro t k
          show Steps p.tables e below (s₁.setTop (mkF m 17 #[.val (.int u0)] [(.int (65 : Int32)), (.int u0)])) t
          refine XS.icmpNo X0.here hx rfl (hb hby d2_17) rfl (flt h16).1 ?_
          exact k
        refine OFin.go S18 ?_
        have S19 : ∀ t, Steps p.tables e below (s₁.setTop (mkF m 23 #[.val (.int u0)] [(.int (90 : Int32)), (.int u0)])) t → Steps p.tables e below (s₁.setTop (mkF m 20 #[.val (.int u0)] [])) t := by
          intro t k
          show Steps p.tables e below (s₁.setTop (mkF m 20 #[.val (.int u0)] [])) t
          refine XS.iloadN X0.here hx rfl (hb hby d2_20) rfl ?_
          show Steps p.tables e below (s₁.setTop (mkF m 21 #[.val (.int u0)] [(.int u0)])) t
          refine XS.bipush X0.here hx rfl (hb hby d2_21) ?_
          exact k
        refine OFin.go S19 ?_
        by_cases h20 : ((90 : Int32) < u0)
        · -- pc 23: ((90 : Int32) < u0)
          have S21 : ∀ t, Steps p.tables e below (s₁.setTop (mkF m 28 #[.val (.int u0)] [])) t → Steps p.tables e below (s₁.setTop (mkF m 23 #[.val (.int u0)] [(.int (90 : Int32)), (.int u0)])) t := by
            intro t k
            show Steps p.tables e below (s₁.setTop (mkF m 23 #[.val (.int u0)] [(.int (90 : Int32)), (.int u0)])) t
            refine XS.icmpYes X0.here hx rfl (pc0 := 23) (pc' := 28) rfl (hb hby d2_23) rfl (tlt h20).2.2.1 (by decide) (by decide) ?_
            exact k
          refine OFin.go S21 ?_
          exact absurd h15 (fun q => (fun q => q h20) q.2)
        · -- pc 23: not ((90 : Int32) < u0)
          have S22 : ∀ t, Steps p.tables e below (s₁.setTop (mkF m 26 #[.val (.int u0)] [])) t → Steps p.tables e below (s₁.setTop (mkF m 23 #[.val (.int u0)] [(.int (90 : Int32)), (.int u0)])) t := by
            intro t k
            show Steps p.tables e below (s₁.setTop (mkF m 23 #[.val (.int u0)] [(.int (90 : Int32)), (.int u0)])) t
            refine XS.icmpNo X0.here hx rfl (hb hby d2_23) rfl (flt h20).2.2.1 ?_
            exact k
          refine OFin.go S22 ?_
          have S23 : ∀ t, Steps p.tables e below (s₁.setTop (mkF m 27 #[.val (.int u0)] [(.int (1 : Int32))])) t → Steps p.tables e below (s₁.setTop (mkF m 26 #[.val (.int u0)] [])) t := by
            intro t k
            show Steps p.tables e below (s₁.setTop (mkF m 26 #[.val (.int u0)] [])) t
            refine XS.iconst X0.here hx rfl (hb hby d2_26) ?_
            exact k
          refine OFin.go S23 ?_
          exact finZ X0 hx Bd.notSynchronized (t := .boolean) Bd.returns (by simp) (hb hby d2_27) rfl (by decide) (by decide) (⟨congrArg (fun z => some (Value.int z)) (show (1 : Int32) = bi _ from (bi_t (Or.inr (Or.inl h15))).symm : (1 : Int32) = (fRef u0)), N0, e0⟩)
    ·
      have J24 : ∀ t, Steps p.tables e below (s₁.setTop (mkF m 28 #[.val (.int u0)] [])) t → Steps p.tables e below (s₁.setTop (mkF m 17 #[.val (.int u0)] [(.int (65 : Int32)), (.int u0)])) t := by
        intro t k
        show Steps p.tables e below (s₁.setTop (mkF m 17 #[.val (.int u0)] [(.int (65 : Int32)), (.int u0)])) t
        by_cases h25 : (u0 < (65 : Int32))
        · refine XS.icmpYes X0.here hx rfl (pc0 := 17) (pc' := 28) rfl (hb hby d2_17) rfl (tlt h25).1 (by decide) (by decide) ?_
          exact k
        · refine XS.icmpNo X0.here hx rfl (hb hby d2_17) rfl (flt h25).1 ?_
          show Steps p.tables e below (s₁.setTop (mkF m 20 #[.val (.int u0)] [])) t
          refine XS.iloadN X0.here hx rfl (hb hby d2_20) rfl ?_
          show Steps p.tables e below (s₁.setTop (mkF m 21 #[.val (.int u0)] [(.int u0)])) t
          refine XS.bipush X0.here hx rfl (hb hby d2_21) ?_
          show Steps p.tables e below (s₁.setTop (mkF m 23 #[.val (.int u0)] [(.int (90 : Int32)), (.int u0)])) t
          by_cases h26 : ((90 : Int32) < u0)
          · refine XS.icmpYes X0.here hx rfl (pc0 := 23) (pc' := 28) rfl (hb hby d2_23) rfl (tlt h26).2.2.1 (by decide) (by decide) ?_
            exact k
          · refine XS.icmpNo X0.here hx rfl (hb hby d2_23) rfl (flt h26).2.2.1 ?_
            show Steps p.tables e below (s₁.setTop (mkF m 26 #[.val (.int u0)] [])) t
            refine XS.iconst X0.here hx rfl (hb hby d2_26) ?_
            exact absurd ⟨h25, h26⟩ h15
      refine OFin.go J24 ?_
      have S27 : ∀ t, Steps p.tables e below (s₁.setTop (mkF m 32 #[.val (.int u0)] [(.int (192 : Int32)), (.int u0)])) t → Steps p.tables e below (s₁.setTop (mkF m 28 #[.val (.int u0)] [])) t := by
        intro t k
        show Steps p.tables e below (s₁.setTop (mkF m 28 #[.val (.int u0)] [])) t
        refine XS.iloadN X0.here hx rfl (hb hby d2_28) rfl ?_
        show Steps p.tables e below (s₁.setTop (mkF m 29 #[.val (.int u0)] [(.int u0)])) t
        refine XS.sipush X0.here hx rfl (hb hby d2_29) ?_
        exact k
      refine OFin.go S27 ?_
      by_cases h28 : (¬ (u0 < (192 : Int32)) ∧ (¬ ((214 : Int32) < u0)))
      ·
        by_cases h29 : (u0 < (192 : Int32))
        · -- pc 32: (u0 < (192 : Int32))
          have S30 : ∀ t, Steps p.tables e below (s₁.setTop (mkF m 44 #[.val (.int u0)] [])) t → Steps p.tables e below (s₁.setTop (mkF m 32 #[.val (.int u0)] [(.int (192 : Int32)), (.int u0)])) t := by
            intro t k
            show Steps p.tables e below (s₁.setTop (mkF m 32 #[.val (.int u0)] [(.int (192 : Int32)), (.int u0)])) t
            refine XS.icmpYes X0.here hx rfl (pc0 := 32) (pc' := 44) rfl (hb hby d2_32) rfl (tlt h29).1 (by decide) (by decide) ?_
            exact k
          refine OFin.go S30 ?_
          exact absurd h28 (fun q => q.1 h29)
        · -- pc 32: not (u0 < (192 : Int32))
          have S31 : ∀ t, Steps p.tables e below (s₁.setTop (mkF m 35 #[.val (.int u0)] [])) t → Steps p.tables e below (s₁.setTop (mkF m 32 #[.val (.int u0)] [(.int (192 : Int32)), (.int u0)])) t := by
            intro t k
            show Steps p.tables e below (s₁.setTop (mkF m 32 #[.val (.int u0)] [(.int (192 : Int32)), (.int u0)])) t
            refine XS.icmpNo X0.here hx rfl (hb hby d2_32) rfl (flt h29).1 ?_
            exact k
          refine OFin.go S31 ?_
          have S32 : ∀ t, Steps p.tables e below (s₁.setTop (mkF m 39 #[.val (.int u0)] [(.int (214 : Int32)), (.int u0)])) t → Steps p.tables e below (s₁.setTop (mkF m 35 #[.val (.int u0)] [])) t := by
            intro t k
            show Steps p.tables e below (s₁.setTop (mkF m 35 #[.val (.int u0)] [])) t
            refine XS.iloadN X0.here hx rfl (hb hby d2_35) rfl ?_
            show Steps p.tables e below (s₁.setTop (mkF m 36 #[.val (.int u0)] [(.int u0)])) t
            refine XS.sipush X0.here hx rfl (hb hby d2_36) ?_
            exact k
          refine OFin.go S32 ?_
          by_cases h33 : ((214 : Int32) < u0)
          · -- pc 39: ((214 : Int32) < u0)
            have S34 : ∀ t, Steps p.tables e below (s₁.setTop (mkF m 44 #[.val (.int u0)] [])) t → Steps p.tables e below (s₁.setTop (mkF m 39 #[.val (.int u0)] [(.int (214 : Int32)), (.int u0)])) t := by
              intro t k
              show Steps p.tables e below (s₁.setTop (mkF m 39 #[.val (.int u0)] [(.int (214 : Int32)), (.int u0)])) t
              refine XS.icmpYes X0.here hx rfl (pc0 := 39) (pc' := 44) rfl (hb hby d2_39) rfl (tlt h33).2.2.1 (by decide) (by decide) ?_
              exact k
            refine OFin.go S34 ?_
            exact absurd h28 (fun q => (fun q => q h33) q.2)
          · -- pc 39: not ((214 : Int32) < u0)
            have S35 : ∀ t, Steps p.tables e below (s₁.setTop (mkF m 42 #[.val (.int u0)] [])) t → Steps p.tables e below (s₁.setTop (mkF m 39 #[.val (.int u0)] [(.int (214 : Int32)), (.int u0)])) t := by
              intro t k
              show Steps p.tables e below (s₁.setTop (mkF m 39 #[.val (.int u0)] [(.int (214 : Int32)), (.int u0)])) t
              refine XS.icmpNo X0.here hx rfl (hb hby d2_39) rfl (flt h33).2.2.1 ?_
              exact k
            refine OFin.go S35 ?_
            have S36 : ∀ t, Steps p.tables e below (s₁.setTop (mkF m 43 #[.val (.int u0)] [(.int (1 : Int32))])) t → Steps p.tables e below (s₁.setTop (mkF m 42 #[.val (.int u0)] [])) t := by
              intro t k
              show Steps p.tables e below (s₁.setTop (mkF m 42 #[.val (.int u0)] [])) t
              refine XS.iconst X0.here hx rfl (hb hby d2_42) ?_
              exact k
            refine OFin.go S36 ?_
            exact finZ X0 hx Bd.notSynchronized (t := .boolean) Bd.returns (by simp) (hb hby d2_43) rfl (by decide) (by decide) (⟨congrArg (fun z => some (Value.int z)) (show (1 : Int32) = bi _ from (bi_t (Or.inr (Or.inr (Or.inl h28)))).symm : (1 : Int32) = (fRef u0)), N0, e0⟩)
      ·
        have J37 : ∀ t, Steps p.tables e below (s₁.setTop (mkF m 44 #[.val (.int u0)] [])) t → Steps p.tables e below (s₁.setTop (mkF m 32 #[.val (.int u0)] [(.int (192 : Int32)), (.int u0)])) t := by
          intro t k
          show Steps p.tables e below (s₁.setTop (mkF m 32 #[.val (.int u0)] [(.int (192 : Int32)), (.int u0)])) t
          by_cases h38 : (u0 < (192 : Int32))
          · refine XS.icmpYes X0.here hx rfl (pc0 := 32) (pc' := 44) rfl (hb hby d2_32) rfl (tlt h38).1 (by decide) (by decide) ?_
            exact k
          · refine XS.icmpNo X0.here hx rfl (hb hby d2_32) rfl (flt h38).1 ?_
            show Steps p.tables e below (s₁.setTop (mkF m 35 #[.val (.int u0)] [])) t
            refine XS.iloadN X0.here hx rfl (hb hby d2_35) rfl ?_
            show Steps p.tables e below (s₁.setTop (mkF m 36 #[.val (.int u0)] [(.int u0)])) t
            refine XS.sipush X0.here hx rfl (hb hby d2_36) ?_
            show Steps p.tables e below (s₁.setTop (mkF m 39 #[.val (.int u0)] [(.int (214 : Int32)), (.int u0)])) t
            by_cases h39 : ((214 : Int32) < u0)
            · refine XS.icmpYes X0.here hx rfl (pc0 := 39) (pc' := 44) rfl (hb hby d2_39) rfl (tlt h39).2.2.1 (by decide) (by decide) ?_
              exact k
            · refine XS.icmpNo X0.here hx rfl (hb hby d2_39) rfl (flt h39).2.2.1 ?_
              show Steps p.tables e below (s₁.setTop (mkF m 42 #[.val (.int u0)] [])) t
              refine XS.iconst X0.here hx rfl (hb hby d2_42) ?_
              exact absurd ⟨h38, h39⟩ h28
        refine OFin.go J37 ?_
        have S40 : ∀ t, Steps p.tables e below (s₁.setTop (mkF m 48 #[.val (.int u0)] [(.int (216 : Int32)), (.int u0)])) t → Steps p.tables e below (s₁.setTop (mkF m 44 #[.val (.int u0)] [])) t := by
          intro t k
          show Steps p.tables e below (s₁.setTop (mkF m 44 #[.val (.int u0)] [])) t
          refine XS.iloadN X0.here hx rfl (hb hby d2_44) rfl ?_
          show Steps p.tables e below (s₁.setTop (mkF m 45 #[.val (.int u0)] [(.int u0)])) t
          refine XS.sipush X0.here hx rfl (hb hby d2_45) ?_
          exact k
        refine OFin.go S40 ?_
        by_cases h41 : (¬ (u0 < (216 : Int32)) ∧ (¬ ((246 : Int32) < u0)))
        ·
          by_cases h42 : (u0 < (216 : Int32))
          · -- pc 48: (u0 < (216 : Int32))
            have S43 : ∀ t, Steps p.tables e below (s₁.setTop (mkF m 60 #[.val (.int u0)] [])) t → Steps p.tables e below (s₁.setTop (mkF m 48 #[.val (.int u0)] [(.int (216 : Int32)), (.int u0)])) t := by
              intro t k
              show Steps p.tables e below (s₁.setTop (mkF m 48 #[.val (.int u0)] [(.int (216 : Int32)), (.int u0)])) t
              refine XS.icmpYes X0.here hx rfl (pc0 := 48) (pc' := 60) rfl (hb hby d2_48) rfl (tlt h42).1 (by decide) (by decide) ?_
              exact k
            refine OFin.go S43 ?_
            exact absurd h41 (fun q => q.1 h42)
          · -- pc 48: not (u0 < (216 : Int32))
            have S44 : ∀ t, Steps p.tables e below (s₁.setTop (mkF m 51 #[.val (.int u0)] [])) t → Steps p.tables e below (s₁.setTop (mkF m 48 #[.val (.int u0)] [(.int (216 : Int32)), (.int u0)])) t := by
              intro t k
              show Steps p.tables e below (s₁.setTop (mkF m 48 #[.val (.int u0)] [(.int (216 : Int32)), (.int u0)])) t
              refine XS.icmpNo X0.here hx rfl (hb hby d2_48) rfl (flt h42).1 ?_
              exact k
            refine OFin.go S44 ?_
            have S45 : ∀ t, Steps p.tables e below (s₁.setTop (mkF m 55 #[.val (.int u0)] [(.int (246 : Int32)), (.int u0)])) t → Steps p.tables e below (s₁.setTop (mkF m 51 #[.val (.int u0)] [])) t := by
              intro t k
              show Steps p.tables e below (s₁.setTop (mkF m 51 #[.val (.int u0)] [])) t
              refine XS.iloadN X0.here hx rfl (hb hby d2_51) rfl ?_
              show Steps p.tables e below (s₁.setTop (mkF m 52 #[.val (.int u0)] [(.int u0)])) t
              refine XS.sipush X0.here hx rfl (hb hby d2_52) ?_
              exact k
            refine OFin.go S45 ?_
            by_cases h46 : ((246 : Int32) < u0)
            · -- pc 55: ((246 : Int32) < u0)
              have S47 : ∀ t, Steps p.tables e below (s₁.setTop (mkF m 60 #[.val (.int u0)] [])) t → Steps p.tables e below (s₁.setTop (mkF m 55 #[.val (.int u0)] [(.int (246 : Int32)), (.int u0)])) t := by
                intro t k
                show Steps p.tables e below (s₁.setTop (mkF m 55 #[.val (.int u0)] [(.int (246 : Int32)), (.int u0)])) t
                refine XS.icmpYes X0.here hx rfl (pc0 := 55) (pc' := 60) rfl (hb hby d2_55) rfl (tlt h46).2.2.1 (by decide) (by decide) ?_
                exact k
              refine OFin.go S47 ?_
              exact absurd h41 (fun q => (fun q => q h46) q.2)
            · -- pc 55: not ((246 : Int32) < u0)
              have S48 : ∀ t, Steps p.tables e below (s₁.setTop (mkF m 58 #[.val (.int u0)] [])) t → Steps p.tables e below (s₁.setTop (mkF m 55 #[.val (.int u0)] [(.int (246 : Int32)), (.int u0)])) t := by
                intro t k
                show Steps p.tables e below (s₁.setTop (mkF m 55 #[.val (.int u0)] [(.int (246 : Int32)), (.int u0)])) t
                refine XS.icmpNo X0.here hx rfl (hb hby d2_55) rfl (flt h46).2.2.1 ?_
                exact k
              refine OFin.go S48 ?_
              have S49 : ∀ t, Steps p.tables e below (s₁.setTop (mkF m 59 #[.val (.int u0)] [(.int (1 : Int32))])) t → Steps p.tables e below (s₁.setTop (mkF m 58 #[.val (.int u0)] [])) t := by
                intro t k
                show Steps p.tables e below (s₁.setTop (mkF m 58 #[.val (.int u0)] [])) t
                refine XS.iconst X0.here hx rfl (hb hby d2_58) ?_
                exact k
              refine OFin.go S49 ?_
              exact finZ X0 hx Bd.notSynchronized (t := .boolean) Bd.returns (by simp) (hb hby d2_59) rfl (by decide) (by decide) (⟨congrArg (fun z => some (Value.int z)) (show (1 : Int32) = bi _ from (bi_t (Or.inr (Or.inr (Or.inr (Or.inl h41))))).symm : (1 : Int32) = (fRef u0)), N0, e0⟩)
        ·
          have J50 : ∀ t, Steps p.tables e below (s₁.setTop (mkF m 60 #[.val (.int u0)] [])) t → Steps p.tables e below (s₁.setTop (mkF m 48 #[.val (.int u0)] [(.int (216 : Int32)), (.int u0)])) t := by
            intro t k
            show Steps p.tables e below (s₁.setTop (mkF m 48 #[.val (.int u0)] [(.int (216 : Int32)), (.int u0)])) t
            by_cases h51 : (u0 < (216 : Int32))
            · refine XS.icmpYes X0.here hx rfl (pc0 := 48) (pc' := 60) rfl (hb hby d2_48) rfl (tlt h51).1 (by decide) (by decide) ?_
              exact k
            · refine XS.icmpNo X0.here hx rfl (hb hby d2_48) rfl (flt h51).1 ?_
              show Steps p.tables e below (s₁.setTop (mkF m 51 #[.val (.int u0)] [])) t
              refine XS.iloadN X0.here hx rfl (hb hby d2_51) rfl ?_
              show Steps p.tables e below (s₁.setTop (mkF m 52 #[.val (.int u0)] [(.int u0)])) t
              refine XS.sipush X0.here hx rfl (hb hby d2_52) ?_
              show Steps p.tables e below (s₁.setTop (mkF m 55 #[.val (.int u0)] [(.int (246 : Int32)), (.int u0)])) t
              by_cases h52 : ((246 : Int32) < u0)
              · refine XS.icmpYes X0.here hx rfl (pc0 := 55) (pc' := 60) rfl (hb hby d2_55) rfl (tlt h52).2.2.1 (by decide) (by decide) ?_
                exact k
              · refine XS.icmpNo X0.here hx rfl (hb hby d2_55) rfl (flt h52).2.2.1 ?_
                show Steps p.tables e below (s₁.setTop (mkF m 58 #[.val (.int u0)] [])) t
                refine XS.iconst X0.here hx rfl (hb hby d2_58) ?_
                exact absurd ⟨h51, h52⟩ h41
          refine OFin.go J50 ?_
          have S53 : ∀ t, Steps p.tables e below (s₁.setTop (mkF m 64 #[.val (.int u0)] [(.int (248 : Int32)), (.int u0)])) t → Steps p.tables e below (s₁.setTop (mkF m 60 #[.val (.int u0)] [])) t := by
            intro t k
            show Steps p.tables e below (s₁.setTop (mkF m 60 #[.val (.int u0)] [])) t
            refine XS.iloadN X0.here hx rfl (hb hby d2_60) rfl ?_
            show Steps p.tables e below (s₁.setTop (mkF m 61 #[.val (.int u0)] [(.int u0)])) t
            refine XS.sipush X0.here hx rfl (hb hby d2_61) ?_
            exact k
          refine OFin.go S53 ?_
          by_cases h54 : (¬ (u0 < (248 : Int32)) ∧ (¬ ((767 : Int32) < u0)))
          ·
            by_cases h55 : (u0 < (248 : Int32))
            · -- pc 64: (u0 < (248 : Int32))
              have S56 : ∀ t, Steps p.tables e below (s₁.setTop (mkF m 76 #[.val (.int u0)] [])) t → Steps p.tables e below (s₁.setTop (mkF m 64 #[.val (.int u0)] [(.int (248 : Int32)), (.int u0)])) t := by
                intro t k
                show Steps p.tables e below (s₁.setTop (mkF m 64 #[.val (.int u0)] [(.int (248 : Int32)), (.int u0)])) t
                refine XS.icmpYes X0.here hx rfl (pc0 := 64) (pc' := 76) rfl (hb hby d2_64) rfl (tlt h55).1 (by decide) (by decide) ?_
                exact k
              refine OFin.go S56 ?_
              exact absurd h54 (fun q => q.1 h55)
            · -- pc 64: not (u0 < (248 : Int32))
              have S57 : ∀ t, Steps p.tables e below (s₁.setTop (mkF m 67 #[.val (.int u0)] [])) t → Steps p.tables e below (s₁.setTop (mkF m 64 #[.val (.int u0)] [(.int (248 : Int32)), (.int u0)])) t := by
                intro t k
                show Steps p.tables e below (s₁.setTop (mkF m 64 #[.val (.int u0)] [(.int (248 : Int32)), (.int u0)])) t
                refine XS.icmpNo X0.here hx rfl (hb hby d2_64) rfl (flt h55).1 ?_
                exact k
              refine OFin.go S57 ?_
              have S58 : ∀ t, Steps p.tables e below (s₁.setTop (mkF m 71 #[.val (.int u0)] [(.int (767 : Int32)), (.int u0)])) t → Steps p.tables e below (s₁.setTop (mkF m 67 #[.val (.int u0)] [])) t := by
                intro t k
                show Steps p.tables e below (s₁.setTop (mkF m 67 #[.val (.int u0)] [])) t
                refine XS.iloadN X0.here hx rfl (hb hby d2_67) rfl ?_
                show Steps p.tables e below (s₁.setTop (mkF m 68 #[.val (.int u0)] [(.int u0)])) t
                refine XS.sipush X0.here hx rfl (hb hby d2_68) ?_
                exact k
              refine OFin.go S58 ?_
              by_cases h59 : ((767 : Int32) < u0)
              · -- pc 71: ((767 : Int32) < u0)
                have S60 : ∀ t, Steps p.tables e below (s₁.setTop (mkF m 76 #[.val (.int u0)] [])) t → Steps p.tables e below (s₁.setTop (mkF m 71 #[.val (.int u0)] [(.int (767 : Int32)), (.int u0)])) t := by
                  intro t k
                  show Steps p.tables e below (s₁.setTop (mkF m 71 #[.val (.int u0)] [(.int (767 : Int32)), (.int u0)])) t
                  refine XS.icmpYes X0.here hx rfl (pc0 := 71) (pc' := 76) rfl (hb hby d2_71) rfl (tlt h59).2.2.1 (by decide) (by decide) ?_
                  exact k
                refine OFin.go S60 ?_
                exact absurd h54 (fun q => (fun q => q h59) q.2)
              · -- pc 71: not ((767 : Int32) < u0)
                have S61 : ∀ t, Steps p.tables e below (s₁.setTop (mkF m 74 #[.val (.int u0)] [])) t → Steps p.tables e below (s₁.setTop (mkF m 71 #[.val (.int u0)] [(.int (767 : Int32)), (.int u0)])) t := by
                  intro t k
                  show Steps p.tables e below (s₁.setTop (mkF m 71 #[.val (.int u0)] [(.int (767 : Int32)), (.int u0)])) t
                  refine XS.icmpNo X0.here hx rfl (hb hby d2_71) rfl (flt h59).2.2.1 ?_
                  exact k
                refine OFin.go S61 ?_
                have S62 : ∀ t, Steps p.tables e below (s₁.setTop (mkF m 75 #[.val (.int u0)] [(.int (1 : Int32))])) t → Steps p.tables e below (s₁.setTop (mkF m 74 #[.val (.int u0)] [])) t := by
                  intro t k
                  show Steps p.tables e below (s₁.setTop (mkF m 74 #[.val (.int u0)] [])) t
                  refine XS.iconst X0.here hx rfl (hb hby d2_74) ?_
                  exact k
                refine OFin.go S62 ?_
                exact finZ X0 hx Bd.notSynchronized (t := .boolean) Bd.returns (by simp) (hb hby d2_75) rfl (by decide) (by decide) (⟨congrArg (fun z => some (Value.int z)) (show (1 : Int32) = bi _ from (bi_t (Or.inr (Or.inr (Or.inr (Or.inr (Or.inl h54)))))).symm : (1 : Int32) = (fRef u0)), N0, e0⟩)
          ·
            have J63 : ∀ t, Steps p.tables e below (s₁.setTop (mkF m 76 #[.val (.int u0)] [])) t → Steps p.tables e below (s₁.setTop (mkF m 64 #[.val (.int u0)] [(.int (248 : Int32)), (.int u0)])) t := by
              intro t k
              show Steps p.tables e below (s₁.setTop (mkF m 64 #[.val (.int u0)] [(.int (248 : Int32)), (.int u0)])) t
              by_cases h64 : (u0 < (248 : Int32))
              · refine XS.icmpYes X0.here hx rfl (pc0 := 64) (pc' := 76) rfl (hb hby d2_64) rfl (tlt h64).1 (by decide) (by decide) ?_
                exact k
              · refine XS.icmpNo X0.here hx rfl (hb hby d2_64) rfl (flt h64).1 ?_
                show Steps p.tables e below (s₁.setTop (mkF m 67 #[.val (.int u0)] [])) t
                refine XS.iloadN X0.here hx rfl (hb hby d2_67) rfl ?_
                show Steps p.tables e below (s₁.setTop (mkF m 68 #[.val (.int u0)] [(.int u0)])) t
                refine XS.sipush X0.here hx rfl (hb hby d2_68) ?_
                show Steps p.tables e below (s₁.setTop (mkF m 71 #[.val (.int u0)] [(.int (767 : Int32)), (.int u0)])) t
                by_cases h65 : ((767 : Int32) < u0)
                · refine XS.icmpYes X0.here hx rfl (pc0 := 71) (pc' := 76) rfl (hb hby d2_71) rfl (tlt h65).2.2.1 (by decide) (by decide) ?_
                  exact k
                · refine XS.icmpNo X0.here hx rfl (hb hby d2_71) rfl (flt h65).2.2.1 ?_
                  show Steps p.tables e below (s₁.setTop (mkF m 74 #[.val (.int u0)] [])) t
                  refine XS.iconst X0.here hx rfl (hb hby d2_74) ?_
                  exact absurd ⟨h64, h65⟩ h54
            refine OFin.go J63 ?_
            have S66 : ∀ t, Steps p.tables e below (s₁.setTop (mkF m 80 #[.val (.int u0)] [(.int (880 : Int32)), (.int u0)])) t → Steps p.tables e below (s₁.setTop (mkF m 76 #[.val (.int u0)] [])) t := by
              intro t k
              show Steps p.tables e below (s₁.setTop (mkF m 76 #[.val (.int u0)] [])) t
              refine XS.iloadN X0.here hx rfl (hb hby d2_76) rfl ?_
              show Steps p.tables e below (s₁.setTop (mkF m 77 #[.val (.int u0)] [(.int u0)])) t
              refine XS.sipush X0.here hx rfl (hb hby d2_77) ?_
              exact k
            refine OFin.go S66 ?_
            by_cases h67 : (¬ (u0 < (880 : Int32)) ∧ (¬ ((893 : Int32) < u0)))
            ·
              by_cases h68 : (u0 < (880 : Int32))
              · -- pc 80: (u0 < (880 : Int32))
                have S69 : ∀ t, Steps p.tables e below (s₁.setTop (mkF m 92 #[.val (.int u0)] [])) t → Steps p.tables e below (s₁.setTop (mkF m 80 #[.val (.int u0)] [(.int (880 : Int32)), (.int u0)])) t := by
                  intro t k
                  show Steps p.tables e below (s₁.setTop (mkF m 80 #[.val (.int u0)] [(.int (880 : Int32)), (.int u0)])) t
                  refine XS.icmpYes X0.here hx rfl (pc0 := 80) (pc' := 92) rfl (hb hby d2_80) rfl (tlt h68).1 (by decide) (by decide) ?_
                  exact k
                refine OFin.go S69 ?_
                exact absurd h67 (fun q => q.1 h68)
              · -- pc 80: not (u0 < (880 : Int32))
                have S70 : ∀ t, Steps p.tables e below (s₁.setTop (mkF m 83 #[.val (.int u0)] [])) t → Steps p.tables e below (s₁.setTop (mkF m 80 #[.val (.int u0)] [(.int (880 : Int32)), (.int u0)])) t := by
                  intro t k
                  show Steps p.tables e below (s₁.setTop (mkF m 80 #[.val (.int u0)] [(.int (880 : Int32)), (.int u0)])) t
                  refine XS.icmpNo X0.here hx rfl (hb hby d2_80) rfl (flt h68).1 ?_
                  exact k
                refine OFin.go S70 ?_
                have S71 : ∀ t, Steps p.tables e below (s₁.setTop (mkF m 87 #[.val (.int u0)] [(.int (893 : Int32)), (.int u0)])) t → Steps p.tables e below (s₁.setTop (mkF m 83 #[.val (.int u0)] [])) t := by
                  intro t k
                  show Steps p.tables e below (s₁.setTop (mkF m 83 #[.val (.int u0)] [])) t
                  refine XS.iloadN X0.here hx rfl (hb hby d2_83) rfl ?_
                  show Steps p.tables e below (s₁.setTop (mkF m 84 #[.val (.int u0)] [(.int u0)])) t
                  refine XS.sipush X0.here hx rfl (hb hby d2_84) ?_
                  exact k
                refine OFin.go S71 ?_
                by_cases h72 : ((893 : Int32) < u0)
                · -- pc 87: ((893 : Int32) < u0)
                  have S73 : ∀ t, Steps p.tables e below (s₁.setTop (mkF m 92 #[.val (.int u0)] [])) t → Steps p.tables e below (s₁.setTop (mkF m 87 #[.val (.int u0)] [(.int (893 : Int32)), (.int u0)])) t := by
                    intro t k
                    show Steps p.tables e below (s₁.setTop (mkF m 87 #[.val (.int u0)] [(.int (893 : Int32)), (.int u0)])) t
                    refine XS.icmpYes X0.here hx rfl (pc0 := 87) (pc' := 92) rfl (hb hby d2_87) rfl (tlt h72).2.2.1 (by decide) (by decide) ?_
                    exact k
                  refine OFin.go S73 ?_
                  exact absurd h67 (fun q => (fun q => q h72) q.2)
                · -- pc 87: not ((893 : Int32) < u0)
                  have S74 : ∀ t, Steps p.tables e below (s₁.setTop (mkF m 90 #[.val (.int u0)] [])) t → Steps p.tables e below (s₁.setTop (mkF m 87 #[.val (.int u0)] [(.int (893 : Int32)), (.int u0)])) t := by
                    intro t k
                    show Steps p.tables e below (s₁.setTop (mkF m 87 #[.val (.int u0)] [(.int (893 : Int32)), (.int u0)])) t
                    refine XS.icmpNo X0.here hx rfl (hb hby d2_87) rfl (flt h72).2.2.1 ?_
                    exact k
                  refine OFin.go S74 ?_
                  have S75 : ∀ t, Steps p.tables e below (s₁.setTop (mkF m 91 #[.val (.int u0)] [(.int (1 : Int32))])) t → Steps p.tables e below (s₁.setTop (mkF m 90 #[.val (.int u0)] [])) t := by
                    intro t k
                    show Steps p.tables e below (s₁.setTop (mkF m 90 #[.val (.int u0)] [])) t
                    refine XS.iconst X0.here hx rfl (hb hby d2_90) ?_
                    exact k
                  refine OFin.go S75 ?_
                  exact finZ X0 hx Bd.notSynchronized (t := .boolean) Bd.returns (by simp) (hb hby d2_91) rfl (by decide) (by decide) (⟨congrArg (fun z => some (Value.int z)) (show (1 : Int32) = bi _ from (bi_t (Or.inr (Or.inr (Or.inr (Or.inr (Or.inr (Or.inl h67))))))).symm : (1 : Int32) = (fRef u0)), N0, e0⟩)
            ·
              have J76 : ∀ t, Steps p.tables e below (s₁.setTop (mkF m 92 #[.val (.int u0)] [])) t → Steps p.tables e below (s₁.setTop (mkF m 80 #[.val (.int u0)] [(.int (880 : Int32)), (.int u0)])) t := by
                intro t k
                show Steps p.tables e below (s₁.setTop (mkF m 80 #[.val (.int u0)] [(.int (880 : Int32)), (.int u0)])) t
                by_cases h77 : (u0 < (880 : Int32))
                · refine XS.icmpYes X0.here hx rfl (pc0 := 80) (pc' := 92) rfl (hb hby d2_80) rfl (tlt h77).1 (by decide) (by decide) ?_
                  exact k
                · refine XS.icmpNo X0.here hx rfl (hb hby d2_80) rfl (flt h77).1 ?_
                  show Steps p.tables e below (s₁.setTop (mkF m 83 #[.val (.int u0)] [])) t
                  refine XS.iloadN X0.here hx rfl (hb hby d2_83) rfl ?_
                  show Steps p.tables e below (s₁.setTop (mkF m 84 #[.val (.int u0)] [(.int u0)])) t
                  refine XS.sipush X0.here hx rfl (hb hby d2_84) ?_
                  show Steps p.tables e below (s₁.setTop (mkF m 87 #[.val (.int u0)] [(.int (893 : Int32)), (.int u0)])) t
                  by_cases h78 : ((893 : Int32) < u0)
                  · refine XS.icmpYes X0.here hx rfl (pc0 := 87) (pc' := 92) rfl (hb hby d2_87) rfl (tlt h78).2.2.1 (by decide) (by decide) ?_
                    exact k
                  · refine XS.icmpNo X0.here hx rfl (hb hby d2_87) rfl (flt h78).2.2.1 ?_
                    show Steps p.tables e below (s₁.setTop (mkF m 90 #[.val (.int u0)] [])) t
                    refine XS.iconst X0.here hx rfl (hb hby d2_90) ?_
                    exact absurd ⟨h77, h78⟩ h67
              refine OFin.go J76 ?_
              have S79 : ∀ t, Steps p.tables e below (s₁.setTop (mkF m 96 #[.val (.int u0)] [(.int (895 : Int32)), (.int u0)])) t → Steps p.tables e below (s₁.setTop (mkF m 92 #[.val (.int u0)] [])) t := by
                intro t k
                show Steps p.tables e below (s₁.setTop (mkF m 92 #[.val (.int u0)] [])) t
                refine XS.iloadN X0.here hx rfl (hb hby d2_92) rfl ?_
                show Steps p.tables e below (s₁.setTop (mkF m 93 #[.val (.int u0)] [(.int u0)])) t
                refine XS.sipush X0.here hx rfl (hb hby d2_93) ?_
                exact k
              refine OFin.go S79 ?_
              by_cases h80 : (¬ (u0 < (895 : Int32)) ∧ (¬ ((8191 : Int32) < u0)))
              ·
                by_cases h81 : (u0 < (895 : Int32))
                · -- pc 96: (u0 < (895 : Int32))
                  have S82 : ∀ t, Steps p.tables e below (s₁.setTop (mkF m 108 #[.val (.int u0)] [])) t → Steps p.tables e below (s₁.setTop (mkF m 96 #[.val (.int u0)] [(.int (895 : Int32)), (.int u0)])) t := by
                    intro t k
                    show Steps p.tables e below (s₁.setTop (mkF m 96 #[.val (.int u0)] [(.int (895 : Int32)), (.int u0)])) t
                    refine XS.icmpYes X0.here hx rfl (pc0 := 96) (pc' := 108) rfl (hb hby d2_96) rfl (tlt h81).1 (by decide) (by decide) ?_
                    exact k
                  refine OFin.go S82 ?_
                  exact absurd h80 (fun q => q.1 h81)
                · -- pc 96: not (u0 < (895 : Int32))
                  have S83 : ∀ t, Steps p.tables e below (s₁.setTop (mkF m 99 #[.val (.int u0)] [])) t → Steps p.tables e below (s₁.setTop (mkF m 96 #[.val (.int u0)] [(.int (895 : Int32)), (.int u0)])) t := by
                    intro t k
                    show Steps p.tables e below (s₁.setTop (mkF m 96 #[.val (.int u0)] [(.int (895 : Int32)), (.int u0)])) t
                    refine XS.icmpNo X0.here hx rfl (hb hby d2_96) rfl (flt h81).1 ?_
                    exact k
                  refine OFin.go S83 ?_
                  have S84 : ∀ t, Steps p.tables e below (s₁.setTop (mkF m 103 #[.val (.int u0)] [(.int (8191 : Int32)), (.int u0)])) t → Steps p.tables e below (s₁.setTop (mkF m 99 #[.val (.int u0)] [])) t := by
                    intro t k
                    show Steps p.tables e below (s₁.setTop (mkF m 99 #[.val (.int u0)] [])) t
                    refine XS.iloadN X0.here hx rfl (hb hby d2_99) rfl ?_
                    show Steps p.tables e below (s₁.setTop (mkF m 100 #[.val (.int u0)] [(.int u0)])) t
                    refine XS.sipush X0.here hx rfl (hb hby d2_100) ?_
                    exact k
                  refine OFin.go S84 ?_
                  by_cases h85 : ((8191 : Int32) < u0)
                  · -- pc 103: ((8191 : Int32) < u0)
                    have S86 : ∀ t, Steps p.tables e below (s₁.setTop (mkF m 108 #[.val (.int u0)] [])) t → Steps p.tables e below (s₁.setTop (mkF m 103 #[.val (.int u0)] [(.int (8191 : Int32)), (.int u0)])) t := by
                      intro t k
                      show Steps p.tables e below (s₁.setTop (mkF m 103 #[.val (.int u0)] [(.int (8191 : Int32)), (.int u0)])) t
                      refine XS.icmpYes X0.here hx rfl (pc0 := 103) (pc' := 108) rfl (hb hby d2_103) rfl (tlt h85).2.2.1 (by decide) (by decide) ?_
                      exact k
                    refine OFin.go S86 ?_
                    exact absurd h80 (fun q => (fun q => q h85) q.2)
                  · -- pc 103: not ((8191 : Int32) < u0)
                    have S87 : ∀ t, Steps p.tables e below (s₁.setTop (mkF m 106 #[.val (.int u0)] [])) t → Steps p.tables e below (s₁.setTop (mkF m 103 #[.val (.int u0)] [(.int (8191 : Int32)), (.int u0)])) t := by
                      intro t k
                      show Steps p.tables e below (s₁.setTop (mkF m 103 #[.val (.int u0)] [(.int (8191 : Int32)), (.int u0)])) t
                      refine XS.icmpNo X0.here hx rfl (hb hby d2_103) rfl (flt h85).2.2.1 ?_
                      exact k
                    refine OFin.go S87 ?_
                    have S88 : ∀ t, Steps p.tables e below (s₁.setTop (mkF m 107 #[.val (.int u0)] [(.int (1 : Int32))])) t → Steps p.tables e below (s₁.setTop (mkF m 106 #[.val (.int u0)] [])) t := by
                      intro t k
                      show Steps p.tables e below (s₁.setTop (mkF m 106 #[.val (.int u0)] [])) t
                      refine XS.iconst X0.here hx rfl (hb hby d2_106) ?_
                      exact k
                    refine OFin.go S88 ?_
                    exact finZ X0 hx Bd.notSynchronized (t := .boolean) Bd.returns (by simp) (hb hby d2_107) rfl (by decide) (by decide) (⟨congrArg (fun z => some (Value.int z)) (show (1 : Int32) = bi _ from (bi_t (Or.inr (Or.inr (Or.inr (Or.inr (Or.inr (Or.inr (Or.inl h80)))))))).symm : (1 : Int32) = (fRef u0)), N0, e0⟩)
              ·
                have J89 : ∀ t, Steps p.tables e below (s₁.setTop (mkF m 108 #[.val (.int u0)] [])) t → Steps p.tables e below (s₁.setTop (mkF m 96 #[.val (.int u0)] [(.int (895 : Int32)), (.int u0)])) t := by
                  intro t k
                  show Steps p.tables e below (s₁.setTop (mkF m 96 #[.val (.int u0)] [(.int (895 : Int32)), (.int u0)])) t
                  by_cases h90 : (u0 < (895 : Int32))
                  · refine XS.icmpYes X0.here hx rfl (pc0 := 96) (pc' := 108) rfl (hb hby d2_96) rfl (tlt h90).1 (by decide) (by decide) ?_
                    exact k
                  · refine XS.icmpNo X0.here hx rfl (hb hby d2_96) rfl (flt h90).1 ?_
                    show Steps p.tables e below (s₁.setTop (mkF m 99 #[.val (.int u0)] [])) t
                    refine XS.iloadN X0.here hx rfl (hb hby d2_99) rfl ?_
                    show Steps p.tables e below (s₁.setTop (mkF m 100 #[.val (.int u0)] [(.int u0)])) t
                    refine XS.sipush X0.here hx rfl (hb hby d2_100) ?_
                    show Steps p.tables e below (s₁.setTop (mkF m 103 #[.val (.int u0)] [(.int (8191 : Int32)), (.int u0)])) t
                    by_cases h91 : ((8191 : Int32) < u0)
                    · refine XS.icmpYes X0.here hx rfl (pc0 := 103) (pc' := 108) rfl (hb hby d2_103) rfl (tlt h91).2.2.1 (by decide) (by decide) ?_
                      exact k
                    · refine XS.icmpNo X0.here hx rfl (hb hby d2_103) rfl (flt h91).2.2.1 ?_
                      show Steps p.tables e below (s₁.setTop (mkF m 106 #[.val (.int u0)] [])) t
                      refine XS.iconst X0.here hx rfl (hb hby d2_106) ?_
                      exact absurd ⟨h90, h91⟩ h80
                refine OFin.go J89 ?_
                have S92 : ∀ t, Steps p.tables e below (s₁.setTop (mkF m 112 #[.val (.int u0)] [(.int (8204 : Int32)), (.int u0)])) t → Steps p.tables e below (s₁.setTop (mkF m 108 #[.val (.int u0)] [])) t := by
                  intro t k
                  show Steps p.tables e below (s₁.setTop (mkF m 108 #[.val (.int u0)] [])) t
                  refine XS.iloadN X0.here hx rfl (hb hby d2_108) rfl ?_
                  show Steps p.tables e below (s₁.setTop (mkF m 109 #[.val (.int u0)] [(.int u0)])) t
                  refine XS.sipush X0.here hx rfl (hb hby d2_109) ?_
                  exact k
                refine OFin.go S92 ?_
                by_cases h93 : (¬ (u0 < (8204 : Int32)) ∧ (¬ ((8205 : Int32) < u0)))
                ·
                  by_cases h94 : (u0 < (8204 : Int32))
                  · -- pc 112: (u0 < (8204 : Int32))
                    have S95 : ∀ t, Steps p.tables e below (s₁.setTop (mkF m 124 #[.val (.int u0)] [])) t → Steps p.tables e below (s₁.setTop (mkF m 112 #[.val (.int u0)] [(.int (8204 : Int32)), (.int u0)])) t := by
                      intro t k
                      show Steps p.tables e below (s₁.setTop (mkF m 112 #[.val (.int u0)] [(.int (8204 : Int32)), (.int u0)])) t
                      refine XS.icmpYes X0.here hx rfl (pc0 := 112) (pc' := 124) rfl (hb hby d2_112) rfl (tlt h94).1 (by decide) (by decide) ?_
                      exact k
                    refine OFin.go S95 ?_
                    exact absurd h93 (fun q => q.1 h94)
                  · -- pc 112: not (u0 < (8204 : Int32))
                    have S96 : ∀ t, Steps p.tables e below (s₁.setTop (mkF m 115 #[.val (.int u0)] [])) t → Steps p.tables e below (s₁.setTop (mkF m 112 #[.val (.int u0)] [(.int (8204 : Int32)), (.int u0)])) t := by
                      intro t k
                      show Steps p.tables e below (s₁.setTop (mkF m 112 #[.val (.int u0)] [(.int (8204 : Int32)), (.int u0)])) t
                      refine XS.icmpNo X0.here hx rfl (hb hby d2_112) rfl (flt h94).1 ?_
                      exact k
                    refine OFin.go S96 ?_
                    have S97 : ∀ t, Steps p.tables e below (s₁.setTop (mkF m 119 #[.val (.int u0)] [(.int (8205 : Int32)), (.int u0)])) t → Steps p.tables e below (s₁.setTop (mkF m 115 #[.val (.int u0)] [])) t := by
                      intro t k
                      show Steps p.tables e below (s₁.setTop (mkF m 115 #[.val (.int u0)] [])) t
                      refine XS.iloadN X0.here hx rfl (hb hby d2_115) rfl ?_
                      show Steps p.tables e below (s₁.setTop (mkF m 116 #[.val (.int u0)] [(.int u0)])) t
                      refine XS.sipush X0.here hx rfl (hb hby d2_116) ?_
                      exact k
                    refine OFin.go S97 ?_
                    by_cases h98 : ((8205 : Int32) < u0)
                    · -- pc 119: ((8205 : Int32) < u0)
                      have S99 : ∀ t, Steps p.tables e below (s₁.setTop (mkF m 124 #[.val (.int u0)] [])) t → Steps p.tables e below (s₁.setTop (mkF m 119 #[.val (.int u0)] [(.int (8205 : Int32)), (.int u0)])) t := by
                        intro t k
                        show Steps p.tables e below (s₁.setTop (mkF m 119 #[.val (.int u0)] [(.int (8205 : Int32)), (.int u0)])) t
                        refine XS.icmpYes X0.here hx rfl (pc0 := 119) (pc' := 124) rfl (hb hby d2_119) rfl (tlt h98).2.2.1 (by decide) (by decide) ?_
                        exact k
                      refine OFin.go S99 ?_
                      exact absurd h93 (fun q => (fun q => q h98) q.2)
                    · -- pc 119: not ((8205 : Int32) < u0)
                      have S100 : ∀ t, Steps p.tables e below (s₁.setTop (mkF m 122 #[.val (.int u0)] [])) t → Steps p.tables e below (s₁.setTop (mkF m 119 #[.val (.int u0)] [(.int (8205 : Int32)), (.int u0)])) t := by
                        intro t k
                        show Steps p.tables e below (s₁.setTop (mkF m 119 #[.val (.int u0)] [(.int (8205 : Int32)), (.int u0)])) t
                        refine XS.icmpNo X0.here hx rfl (hb hby d2_119) rfl (flt h98).2.2.1 ?_
                        exact k
                      refine OFin.go S100 ?_
                      have S101 : ∀ t, Steps p.tables e below (s₁.setTop (mkF m 123 #[.val (.int u0)] [(.int (1 : Int32))])) t → Steps p.tables e below (s₁.setTop (mkF m 122 #[.val (.int u0)] [])) t := by
                        intro t k
                        show Steps p.tables e below (s₁.setTop (mkF m 122 #[.val (.int u0)] [])) t
                        refine XS.iconst X0.here hx rfl (hb hby d2_122) ?_
                        exact k
                      refine OFin.go S101 ?_
                      exact finZ X0 hx Bd.notSynchronized (t := .boolean) Bd.returns (by simp) (hb hby d2_123) rfl (by decide) (by decide) (⟨congrArg (fun z => some (Value.int z)) (show (1 : Int32) = bi _ from (bi_t (Or.inr (Or.inr (Or.inr (Or.inr (Or.inr (Or.inr (Or.inr (Or.inl h93))))))))).symm : (1 : Int32) = (fRef u0)), N0, e0⟩)
                ·
                  have J102 : ∀ t, Steps p.tables e below (s₁.setTop (mkF m 124 #[.val (.int u0)] [])) t → Steps p.tables e below (s₁.setTop (mkF m 112 #[.val (.int u0)] [(.int (8204 : Int32)), (.int u0)])) t := by
                    intro t k
                    show Steps p.tables e below (s₁.setTop (mkF m 112 #[.val (.int u0)] [(.int (8204 : Int32)), (.int u0)])) t
                    by_cases h103 : (u0 < (8204 : Int32))
                    · refine XS.icmpYes X0.here hx rfl (pc0 := 112) (pc' := 124) rfl (hb hby d2_112) rfl (tlt h103).1 (by decide) (by decide) ?_
                      exact k
                    · refine XS.icmpNo X0.here hx rfl (hb hby d2_112) rfl (flt h103).1 ?_
                      show Steps p.tables e below (s₁.setTop (mkF m 115 #[.val (.int u0)] [])) t
                      refine XS.iloadN X0.here hx rfl (hb hby d2_115) rfl ?_
                      show Steps p.tables e below (s₁.setTop (mkF m 116 #[.val (.int u0)] [(.int u0)])) t
                      refine XS.sipush X0.here hx rfl (hb hby d2_116) ?_
                      show Steps p.tables e below (s₁.setTop (mkF m 119 #[.val (.int u0)] [(.int (8205 : Int32)), (.int u0)])) t
                      by_cases h104 : ((8205 : Int32) < u0)
                      · refine XS.icmpYes X0.here hx rfl (pc0 := 119) (pc' := 124) rfl (hb hby d2_119) rfl (tlt h104).2.2.1 (by decide) (by decide) ?_
                        exact k
                      · refine XS.icmpNo X0.here hx rfl (hb hby d2_119) rfl (flt h104).2.2.1 ?_
                        show Steps p.tables e below (s₁.setTop (mkF m 122 #[.val (.int u0)] [])) t
                        refine XS.iconst X0.here hx rfl (hb hby d2_122) ?_
                        exact absurd ⟨h103, h104⟩ h93
                  refine OFin.go J102 ?_
                  have S105 : ∀ t, Steps p.tables e below (s₁.setTop (mkF m 128 #[.val (.int u0)] [(.int (8304 : Int32)), (.int u0)])) t → Steps p.tables e below (s₁.setTop (mkF m 124 #[.val (.int u0)] [])) t := by
                    intro t k
                    show Steps p.tables e below (s₁.setTop (mkF m 124 #[.val (.int u0)] [])) t
                    refine XS.iloadN X0.here hx rfl (hb hby d2_124) rfl ?_
                    show Steps p.tables e below (s₁.setTop (mkF m 125 #[.val (.int u0)] [(.int u0)])) t
                    refine XS.sipush X0.here hx rfl (hb hby d2_125) ?_
                    exact k
                  refine OFin.go S105 ?_
                  by_cases h106 : (¬ (u0 < (8304 : Int32)) ∧ (¬ ((8591 : Int32) < u0)))
                  ·
                    by_cases h107 : (u0 < (8304 : Int32))
                    · -- pc 128: (u0 < (8304 : Int32))
                      have S108 : ∀ t, Steps p.tables e below (s₁.setTop (mkF m 140 #[.val (.int u0)] [])) t → Steps p.tables e below (s₁.setTop (mkF m 128 #[.val (.int u0)] [(.int (8304 : Int32)), (.int u0)])) t := by
                        intro t k
                        show Steps p.tables e below (s₁.setTop (mkF m 128 #[.val (.int u0)] [(.int (8304 : Int32)), (.int u0)])) t
                        refine XS.icmpYes X0.here hx rfl (pc0 := 128) (pc' := 140) rfl (hb hby d2_128) rfl (tlt h107).1 (by decide) (by decide) ?_
                        exact k
                      refine OFin.go S108 ?_
                      exact absurd h106 (fun q => q.1 h107)
                    · -- pc 128: not (u0 < (8304 : Int32))
                      have S109 : ∀ t, Steps p.tables e below (s₁.setTop (mkF m 131 #[.val (.int u0)] [])) t → Steps p.tables e below (s₁.setTop (mkF m 128 #[.val (.int u0)] [(.int (8304 : Int32)), (.int u0)])) t := by
                        intro t k
                        show Steps p.tables e below (s₁.setTop (mkF m 128 #[.val (.int u0)] [(.int (8304 : Int32)), (.int u0)])) t
                        refine XS.icmpNo X0.here hx rfl (hb hby d2_128) rfl (flt h107).1 ?_
                        exact k
                      refine OFin.go S109 ?_
                      have S110 : ∀ t, Steps p.tables e below (s₁.setTop (mkF m 135 #[.val (.int u0)] [(.int (8591 : Int32)), (.int u0)])) t → Steps p.tables e below (s₁.setTop (mkF m 131 #[.val (.int u0)] [])) t := by
                        intro t k
                        show Steps p.tables e below (s₁.setTop (mkF m 131 #[.val (.int u0)] [])) t
                        refine XS.iloadN X0.here hx rfl (hb hby d2_131) rfl ?_
                        show Steps p.tables e below (s₁.setTop (mkF m 132 #[.val (.int u0)] [(.int u0)])) t
                        refine XS.sipush X0.here hx rfl (hb hby d2_132) ?_
                        exact k
                      refine OFin.go S110 ?_
                      by_cases h111 : ((8591 : Int32) < u0)
                      · -- pc 135: ((8591 : Int32) < u0)
                        have S112 : ∀ t, Steps p.tables e below (s₁.setTop (mkF m 140 #[.val (.int u0)] [])) t → Steps p.tables e below (s₁.setTop (mkF m 135 #[.val (.int u0)] [(.int (8591 : Int32)), (.int u0)])) t := by
                          intro t k
                          show Steps p.tables e below (s₁.setTop (mkF m 135 #[.val (.int u0)] [(.int (8591 : Int32)), (.int u0)])) t
                          refine XS.icmpYes X0.here hx rfl (pc0 := 135) (pc' := 140) rfl (hb hby d2_135) rfl (tlt h111).2.2.1 (by decide) (by decide) ?_
                          exact k
                        refine OFin.go S112 ?_
                        exact absurd h106 (fun q => (fun q => q h111) q.2)
                      · -- pc 135: not ((8591 : Int32) < u0)
                        have S113 : ∀ t, Steps p.tables e below (s₁.setTop (mkF m 138 #[.val (.int u0)] [])) t → Steps p.tables e below (s₁.setTop (mkF m 135 #[.val (.int u0)] [(.int (8591 : Int32)), (.int u0)])) t := by
                          intro t k
                          show Steps p.tables e below (s₁.setTop (mkF m 135 #[.val (.int u0)] [(.int (8591 : Int32)), (.int u0)])) t
                          refine XS.icmpNo X0.here hx rfl (hb hby d2_135) rfl (flt h111).2.2.1 ?_
                          exact k
                        refine OFin.go S113 ?_
                        have S114 : ∀ t, Steps p.tables e below (s₁.setTop (mkF m 139 #[.val (.int u0)] [(.int (1 : Int32))])) t → Steps p.tables e below (s₁.setTop (mkF m 138 #[.val (.int u0)] [])) t := by
                          intro t k
                          show Steps p.tables e below (s₁.setTop (mkF m 138 #[.val (.int u0)] [])) t
                          refine XS.iconst X0.here hx rfl (hb hby d2_138) ?_
                          exact k
                        refine OFin.go S114 ?_
                        exact finZ X0 hx Bd.notSynchronized (t := .boolean) Bd.returns (by simp) (hb hby d2_139) rfl (by decide) (by decide) (⟨congrArg (fun z => some (Value.int z)) (show (1 : Int32) = bi _ from (bi_t (Or.inr (Or.inr (Or.inr (Or.inr (Or.inr (Or.inr (Or.inr (Or.inr (Or.inl h106)))))))))).symm : (1 : Int32) = (fRef u0)), N0, e0⟩)
                  ·
                    have J115 : ∀ t, Steps p.tables e below (s₁.setTop (mkF m 140 #[.val (.int u0)] [])) t → Steps p.tables e below (s₁.setTop (mkF m 128 #[.val (.int u0)] [(.int (8304 : Int32)), (.int u0)])) t := by
                      intro t k
                      show Steps p.tables e below (s₁.setTop (mkF m 128 #[.val (.int u0)] [(.int (8304 : Int32)), (.int u0)])) t
                      by_cases h116 : (u0 < (8304 : Int32))
                      · refine XS.icmpYes X0.here hx rfl (pc0 := 128) (pc' := 140) rfl (hb hby d2_128) rfl (tlt h116).1 (by decide) (by decide) ?_
                        exact k
                      · refine XS.icmpNo X0.here hx rfl (hb hby d2_128) rfl (flt h116).1 ?_
                        show Steps p.tables e below (s₁.setTop (mkF m 131 #[.val (.int u0)] [])) t
                        refine XS.iloadN X0.here hx rfl (hb hby d2_131) rfl ?_
                        show Steps p.tables e below (s₁.setTop (mkF m 132 #[.val (.int u0)] [(.int u0)])) t
                        refine XS.sipush X0.here hx rfl (hb hby d2_132) ?_
                        show Steps p.tables e below (s₁.setTop (mkF m 135 #[.val (.int u0)] [(.int (8591 : Int32)), (.int u0)])) t
                        by_cases h117 : ((8591 : Int32) < u0)
                        · refine XS.icmpYes X0.here hx rfl (pc0 := 135) (pc' := 140) rfl (hb hby d2_135) rfl (tlt h117).2.2.1 (by decide) (by decide) ?_
                          exact k
                        · refine XS.icmpNo X0.here hx rfl (hb hby d2_135) rfl (flt h117).2.2.1 ?_
                          show Steps p.tables e below (s₁.setTop (mkF m 138 #[.val (.int u0)] [])) t
                          refine XS.iconst X0.here hx rfl (hb hby d2_138) ?_
                          exact absurd ⟨h116, h117⟩ h106
                    refine OFin.go J115 ?_
                    have S118 : ∀ t, Steps p.tables e below (s₁.setTop (mkF m 144 #[.val (.int u0)] [(.int (11264 : Int32)), (.int u0)])) t → Steps p.tables e below (s₁.setTop (mkF m 140 #[.val (.int u0)] [])) t := by
                      intro t k
                      show Steps p.tables e below (s₁.setTop (mkF m 140 #[.val (.int u0)] [])) t
                      refine XS.iloadN X0.here hx rfl (hb hby d2_140) rfl ?_
                      show Steps p.tables e below (s₁.setTop (mkF m 141 #[.val (.int u0)] [(.int u0)])) t
                      refine XS.sipush X0.here hx rfl (hb hby d2_141) ?_
                      exact k
                    refine OFin.go S118 ?_
                    by_cases h119 : (¬ (u0 < (11264 : Int32)) ∧ (¬ ((12271 : Int32) < u0)))
                    ·
                      by_cases h120 : (u0 < (11264 : Int32))
                      · -- pc 144: (u0 < (11264 : Int32))
                        have S121 : ∀ t, Steps p.tables e below (s₁.setTop (mkF m 156 #[.val (.int u0)] [])) t → Steps p.tables e below (s₁.setTop (mkF m 144 #[.val (.int u0)] [(.int (11264 : Int32)), (.int u0)])) t := by
                          intro t k
                          show Steps p.tables e below (s₁.setTop (mkF m 144 #[.val (.int u0)] [(.int (11264 : Int32)), (.int u0)])) t
                          refine XS.icmpYes X0.here hx rfl (pc0 := 144) (pc' := 156) rfl (hb hby d2_144) rfl (tlt h120).1 (by decide) (by decide) ?_
                          exact k
                        refine OFin.go S121 ?_
                        exact absurd h119 (fun q => q.1 h120)
                      · -- pc 144: not (u0 < (11264 : Int32))
                        have S122 : ∀ t, Steps p.tables e below (s₁.setTop (mkF m 147 #[.val (.int u0)] [])) t → Steps p.tables e below (s₁.setTop (mkF m 144 #[.val (.int u0)] [(.int (11264 : Int32)), (.int u0)])) t := by
                          intro t k
                          show Steps p.tables e below (s₁.setTop (mkF m 144 #[.val (.int u0)] [(.int (11264 : Int32)), (.int u0)])) t
                          refine XS.icmpNo X0.here hx rfl (hb hby d2_144) rfl (flt h120).1 ?_
                          exact k
                        refine OFin.go S122 ?_
                        have S123 : ∀ t, Steps p.tables e below (s₁.setTop (mkF m 151 #[.val (.int u0)] [(.int (12271 : Int32)), (.int u0)])) t → Steps p.tables e below (s₁.setTop (mkF m 147 #[.val (.int u0)] [])) t := by
                          intro t k
                          show Steps p.tables e below (s₁.setTop (mkF m 147 #[.val (.int u0)] [])) t
                          refine XS.iloadN X0.here hx rfl (hb hby d2_147) rfl ?_
                          show Steps p.tables e below (s₁.setTop (mkF m 148 #[.val (.int u0)] [(.int u0)])) t
                          refine XS.sipush X0.here hx rfl (hb hby d2_148) ?_
                          exact k
                        refine OFin.go S123 ?_
                        by_cases h124 : ((12271 : Int32) < u0)
                        · -- pc 151: ((12271 : Int32) < u0)
                          have S125 : ∀ t, Steps p.tables e below (s₁.setTop (mkF m 156 #[.val (.int u0)] [])) t → Steps p.tables e below (s₁.setTop (mkF m 151 #[.val (.int u0)] [(.int (12271 : Int32)), (.int u0)])) t := by
                            intro t k
                            show Steps p.tables e below (s₁.setTop (mkF m 151 #[.val (.int u0)] [(.int (12271 : Int32)), (.int u0)])) t
                            refine XS.icmpYes X0.here hx rfl (pc0 := 151) (pc' := 156) rfl (hb hby d2_151) rfl (tlt h124).2.2.1 (by decide) (by decide) ?_
                            exact k
                          refine OFin.go S125 ?_
                          exact absurd h119 (fun q => (fun q => q h124) q.2)
                        · -- pc 151: not ((12271 : Int32) < u0)
                          have S126 : ∀ t, Steps p.tables e below (s₁.setTop (mkF m 154 #[.val (.int u0)] [])) t → Steps p.tables e below (s₁.setTop (mkF m 151 #[.val (.int u0)] [(.int (12271 : Int32)), (.int u0)])) t := by
                            intro t k
                            show Steps p.tables e below (s₁.setTop (mkF m 151 #[.val (.int u0)] [(.int (12271 : Int32)), (.int u0)])) t
                            refine XS.icmpNo X0.here hx rfl (hb hby d2_151) rfl (flt h124).2.2.1 ?_
                            exact k
                          refine OFin.go S126 ?_
                          have S127 : ∀ t, Steps p.tables e below (s₁.setTop (mkF m 155 #[.val (.int u0)] [(.int (1 : Int32))])) t → Steps p.tables e below (s₁.setTop (mkF m 154 #[.val (.int u0)] [])) t := by
                            intro t k
                            show Steps p.tables e below (s₁.setTop (mkF m 154 #[.val (.int u0)] [])) t
                            refine XS.iconst X0.here hx rfl (hb hby d2_154) ?_
                            exact k
                          refine OFin.go S127 ?_
                          exact finZ X0 hx Bd.notSynchronized (t := .boolean) Bd.returns (by simp) (hb hby d2_155) rfl (by decide) (by decide) (⟨congrArg (fun z => some (Value.int z)) (show (1 : Int32) = bi _ from (bi_t (Or.inr (Or.inr (Or.inr (Or.inr (Or.inr (Or.inr (Or.inr (Or.inr (Or.inr (Or.inl h119))))))))))).symm : (1 : Int32) = (fRef u0)), N0, e0⟩)
                    ·
                      have J128 : ∀ t, Steps p.tables e below (s₁.setTop (mkF m 156 #[.val (.int u0)] [])) t → Steps p.tables e below (s₁.setTop (mkF m 144 #[.val (.int u0)] [(.int (11264 : Int32)), (.int u0)])) t := by
                        intro t k
                        show Steps p.tables e below (s₁.setTop (mkF m 144 #[.val (.int u0)] [(.int (11264 : Int32)), (.int u0)])) t
                        by_cases h129 : (u0 < (11264 : Int32))
                        · refine XS.icmpYes X0.here hx rfl (pc0 := 144) (pc' := 156) rfl (hb hby d2_144) rfl (tlt h129).1 (by decide) (by decide) ?_
                          exact k
                        · refine XS.icmpNo X0.here hx rfl (hb hby d2_144) rfl (flt h129).1 ?_
                          show Steps p.tables e below (s₁.setTop (mkF m 147 #[.val (.int u0)] [])) t
                          refine XS.iloadN X0.here hx rfl (hb hby d2_147) rfl ?_
                          show Steps p.tables e below (s₁.setTop (mkF m 148 #[.val (.int u0)] [(.int u0)])) t
                          refine XS.sipush X0.here hx rfl (hb hby d2_148) ?_
                          show Steps p.tables e below (s₁.setTop (mkF m 151 #[.val (.int u0)] [(.int (12271 : Int32)), (.int u0)])) t
                          by_cases h130 : ((12271 : Int32) < u0)
                          · refine XS.icmpYes X0.here hx rfl (pc0 := 151) (pc' := 156) rfl (hb hby d2_151) rfl (tlt h130).2.2.1 (by decide) (by decide) ?_
                            exact k
                          · refine XS.icmpNo X0.here hx rfl (hb hby d2_151) rfl (flt h130).2.2.1 ?_
                            show Steps p.tables e below (s₁.setTop (mkF m 154 #[.val (.int u0)] [])) t
                            refine XS.iconst X0.here hx rfl (hb hby d2_154) ?_
                            exact absurd ⟨h129, h130⟩ h119
                      refine OFin.go J128 ?_
                      have S131 : ∀ t, Steps p.tables e below (s₁.setTop (mkF m 160 #[.val (.int u0)] [(.int (12289 : Int32)), (.int u0)])) t → Steps p.tables e below (s₁.setTop (mkF m 156 #[.val (.int u0)] [])) t := by
                        intro t k
                        show Steps p.tables e below (s₁.setTop (mkF m 156 #[.val (.int u0)] [])) t
                        refine XS.iloadN X0.here hx rfl (hb hby d2_156) rfl ?_
                        show Steps p.tables e below (s₁.setTop (mkF m 157 #[.val (.int u0)] [(.int u0)])) t
                        refine XS.sipush X0.here hx rfl (hb hby d2_157) ?_
                        exact k
                      refine OFin.go S131 ?_
                      by_cases h132 : (¬ (u0 < (12289 : Int32)) ∧ (¬ ((55295 : Int32) < u0)))
                      ·
                        by_cases h133 : (u0 < (12289 : Int32))
                        · -- pc 160: (u0 < (12289 : Int32))
                          have S134 : ∀ t, Steps p.tables e below (s₁.setTop (mkF m 171 #[.val (.int u0)] [])) t → Steps p.tables e below (s₁.setTop (mkF m 160 #[.val (.int u0)] [(.int (12289 : Int32)), (.int u0)])) t := by
                            intro t k
                            show Steps p.tables e below (s₁.setTop (mkF m 160 #[.val (.int u0)] [(.int (12289 : Int32)), (.int u0)])) t
                            refine XS.icmpYes X0.here hx rfl (pc0 := 160) (pc' := 171) rfl (hb hby d2_160) rfl (tlt h133).1 (by decide) (by decide) ?_
                            exact k
                          refine OFin.go S134 ?_
                          exact absurd h132 (fun q => q.1 h133)
                        · -- pc 160: not (u0 < (12289 : Int32))
                          have S135 : ∀ t, Steps p.tables e below (s₁.setTop (mkF m 163 #[.val (.int u0)] [])) t → Steps p.tables e below (s₁.setTop (mkF m 160 #[.val (.int u0)] [(.int (12289 : Int32)), (.int u0)])) t := by
                            intro t k
                            show Steps p.tables e below (s₁.setTop (mkF m 160 #[.val (.int u0)] [(.int (12289 : Int32)), (.int u0)])) t
                            refine XS.icmpNo X0.here hx rfl (hb hby d2_160) rfl (flt h133).1 ?_
                            exact k
                          refine OFin.go S135 ?_
                          have S136 : ∀ t, Steps p.tables e below (s₁.setTop (mkF m 166 #[.val (.int u0)] [(.int (55295 : Int32)), (.int u0)])) t → Steps p.tables e below (s₁.setTop (mkF m 163 #[.val (.int u0)] [])) t := by
                            intro t k
                            show Steps p.tables e below (s₁.setTop (mkF m 163 #[.val (.int u0)] [])) t
                            refine XS.iloadN X0.here hx rfl (hb hby d2_163) rfl ?_
                            show Steps p.tables e below (s₁.setTop (mkF m 164 #[.val (.int u0)] [(.int u0)])) t
                            refine X0.ldcInt hx hown (mvT hZ (hw _ (List.mem_of_getElem? (i := 1) rfl))) (g := (mkF m 164 #[.val (.int u0)] [(.int u0)])) rfl (hb hby d2_164) _ ?_
                            exact k
                          refine OFin.go S136 ?_
                          by_cases h137 : ((55295 : Int32) < u0)
                          · -- pc 166: ((55295 : Int32) < u0)
                            have S138 : ∀ t, Steps p.tables e below (s₁.setTop (mkF m 171 #[.val (.int u0)] [])) t → Steps p.tables e below (s₁.setTop (mkF m 166 #[.val (.int u0)] [(.int (55295 : Int32)), (.int u0)])) t := by
                              intro t k
                              show Steps p.tables e below (s₁.setTop (mkF m 166 #[.val (.int u0)] [(.int (55295 : Int32)), (.int u0)])) t
                              refine XS.icmpYes X0.here hx rfl (pc0 := 166) (pc' := 171) rfl (hb hby d2_166) rfl (tlt h137).2.2.1 (by decide) (by decide) ?_
                              exact k
                            refine OFin.go S138 ?_
                            exact absurd h132 (fun q => (fun q => q h137) q.2)
                          · -- pc 166: not ((55295 : Int32) < u0)
                            have S139 : ∀ t, Steps p.tables e below (s₁.setTop (mkF m 169 #[.val (.int u0)] [])) t → Steps p.tables e below (s₁.setTop (mkF m 166 #[.val (.int u0)] [(.int (55295 : Int32)), (.int u0)])) t := by
                              intro t k
                              show Steps p.tables e below (s₁.setTop (mkF m 166 #[.val (.int u0)] [(.int (55295 : Int32)), (.int u0)])) t
                              refine XS.icmpNo X0.here hx rfl (hb hby d2_166) rfl (flt h137).2.2.1 ?_
                              exact k
                            refine OFin.go S139 ?_
                            have S140 : ∀ t, Steps p.tables e below (s₁.setTop (mkF m 170 #[.val (.int u0)] [(.int (1 : Int32))])) t → Steps p.tables e below (s₁.setTop (mkF m 169 #[.val (.int u0)] [])) t := by
                              intro t k
                              show Steps p.tables e below (s₁.setTop (mkF m 169 #[.val (.int u0)] [])) t
                              refine XS.iconst X0.here hx rfl (hb hby d2_169) ?_
                              exact k
                            refine OFin.go S140 ?_
                            exact finZ X0 hx Bd.notSynchronized (t := .boolean) Bd.returns (by simp) (hb hby d2_170) rfl (by decide) (by decide) (⟨congrArg (fun z => some (Value.int z)) (show (1 : Int32) = bi _ from (bi_t (Or.inr (Or.inr (Or.inr (Or.inr (Or.inr (Or.inr (Or.inr (Or.inr (Or.inr (Or.inr (Or.inl h132)))))))))))).symm : (1 : Int32) = (fRef u0)), N0, e0⟩)
                      ·
                        have J141 : ∀ t, Steps p.tables e below (s₁.setTop (mkF m 171 #[.val (.int u0)] [])) t → Steps p.tables e below (s₁.setTop (mkF m 160 #[.val (.int u0)] [(.int (12289 : Int32)), (.int u0)])) t := by
                          intro t k
                          show Steps p.tables e below (s₁.setTop (mkF m 160 #[.val (.int u0)] [(.int (12289 : Int32)), (.int u0)])) t
                          by_cases h142 : (u0 < (12289 : Int32))
                          · refine XS.icmpYes X0.here hx rfl (pc0 := 160) (pc' := 171) rfl (hb hby d2_160) rfl (tlt h142).1 (by decide) (by decide) ?_
                            exact k
                          · refine XS.icmpNo X0.here hx rfl (hb hby d2_160) rfl (flt h142).1 ?_
                            show Steps p.tables e below (s₁.setTop (mkF m 163 #[.val (.int u0)] [])) t
                            refine XS.iloadN X0.here hx rfl (hb hby d2_163) rfl ?_
                            show Steps p.tables e below (s₁.setTop (mkF m 164 #[.val (.int u0)] [(.int u0)])) t
                            refine X0.ldcInt hx hown (mvT hZ (hw _ (List.mem_of_getElem? (i := 1) rfl))) (g := (mkF m 164 #[.val (.int u0)] [(.int u0)])) rfl (hb hby d2_164) _ ?_
                            show Steps p.tables e below (s₁.setTop (mkF m 166 #[.val (.int u0)] [(.int (55295 : Int32)), (.int u0)])) t
                            by_cases h143 : ((55295 : Int32) < u0)
                            · refine XS.icmpYes X0.here hx rfl (pc0 := 166) (pc' := 171) rfl (hb hby d2_166) rfl (tlt h143).2.2.1 (by decide) (by decide) ?_
                              exact k
                            · refine XS.icmpNo X0.here hx rfl (hb hby d2_166) rfl (flt h143).2.2.1 ?_
                              show Steps p.tables e below (s₁.setTop (mkF m 169 #[.val (.int u0)] [])) t
                              refine XS.iconst X0.here hx rfl (hb hby d2_169) ?_
                              exact absurd ⟨h142, h143⟩ h132
                        refine OFin.go J141 ?_
                        have S144 : ∀ t, Steps p.tables e below (s₁.setTop (mkF m 174 #[.val (.int u0)] [(.int (63744 : Int32)), (.int u0)])) t → Steps p.tables e below (s₁.setTop (mkF m 171 #[.val (.int u0)] [])) t := by
                          intro t k
                          show Steps p.tables e below (s₁.setTop (mkF m 171 #[.val (.int u0)] [])) t
                          refine XS.iloadN X0.here hx rfl (hb hby d2_171) rfl ?_
                          show Steps p.tables e below (s₁.setTop (mkF m 172 #[.val (.int u0)] [(.int u0)])) t
                          refine X0.ldcInt hx hown (mvT hZ (hw _ (List.mem_of_getElem? (i := 2) rfl))) (g := (mkF m 172 #[.val (.int u0)] [(.int u0)])) rfl (hb hby d2_172) _ ?_
                          exact k
                        refine OFin.go S144 ?_
                        by_cases h145 : (¬ (u0 < (63744 : Int32)) ∧ (¬ ((64975 : Int32) < u0)))
                        ·
                          by_cases h146 : (u0 < (63744 : Int32))
                          · -- pc 174: (u0 < (63744 : Int32))
                            have S147 : ∀ t, Steps p.tables e below (s₁.setTop (mkF m 185 #[.val (.int u0)] [])) t → Steps p.tables e below (s₁.setTop (mkF m 174 #[.val (.int u0)] [(.int (63744 : Int32)), (.int u0)])) t := by
                              intro t k
                              show Steps p.tables e below (s₁.setTop (mkF m 174 #[.val (.int u0)] [(.int (63744 : Int32)), (.int u0)])) t
                              refine XS.icmpYes X0.here hx rfl (pc0 := 174) (pc' := 185) rfl (hb hby d2_174) rfl (tlt h146).1 (by decide) (by decide) ?_
                              exact k
                            refine OFin.go S147 ?_
                            exact absurd h145 (fun q => q.1 h146)
                          · -- pc 174: not (u0 < (63744 : Int32))
                            have S148 : ∀ t, Steps p.tables e below (s₁.setTop (mkF m 177 #[.val (.int u0)] [])) t → Steps p.tables e below (s₁.setTop (mkF m 174 #[.val (.int u0)] [(.int (63744 : Int32)), (.int u0)])) t := by
                              intro t k
                              show Steps p.tables e below (s₁.setTop (mkF m 174 #[.val (.int u0)] [(.int (63744 : Int32)), (.int u0)])) t
                              refine XS.icmpNo X0.here hx rfl (hb hby d2_174) rfl (flt h146).1 ?_
                              exact k
                            refine OFin.go S148 ?_
                            have S149 : ∀ t, Steps p.tables e below (s₁.setTop (mkF m 180 #[.val (.int u0)] [(.int (64975 : Int32)), (.int u0)])) t → Steps p.tables e below (s₁.setTop (mkF m 177 #[.val (.int u0)] [])) t := by
                              intro t k
                              show Steps p.tables e below (s₁.setTop (mkF m 177 #[.val (.int u0)] [])) t
                              refine XS.iloadN X0.here hx rfl (hb hby d2_177) rfl ?_
                              show Steps p.tables e below (s₁.setTop (mkF m 178 #[.val (.int u0)] [(.int u0)])) t
                              refine X0.ldcInt hx hown (mvT hZ (hw _ (List.mem_of_getElem? (i := 3) rfl))) (g := (mkF m 178 #[.val (.int u0)] [(.int u0)])) rfl (hb hby d2_178) _ ?_
                              exact k
                            refine OFin.go S149 ?_
                            by_cases h150 : ((64975 : Int32) < u0)
                            · -- pc 180: ((64975 : Int32) < u0)
                              have S151 : ∀ t, Steps p.tables e below (s₁.setTop (mkF m 185 #[.val (.int u0)] [])) t → Steps p.tables e below (s₁.setTop (mkF m 180 #[.val (.int u0)] [(.int (64975 : Int32)), (.int u0)])) t := by
                                intro t k
                                show Steps p.tables e below (s₁.setTop (mkF m 180 #[.val (.int u0)] [(.int (64975 : Int32)), (.int u0)])) t
                                refine XS.icmpYes X0.here hx rfl (pc0 := 180) (pc' := 185) rfl (hb hby d2_180) rfl (tlt h150).2.2.1 (by decide) (by decide) ?_
                                exact k
                              refine OFin.go S151 ?_
                              exact absurd h145 (fun q => (fun q => q h150) q.2)
                            · -- pc 180: not ((64975 : Int32) < u0)
                              have S152 : ∀ t, Steps p.tables e below (s₁.setTop (mkF m 183 #[.val (.int u0)] [])) t → Steps p.tables e below (s₁.setTop (mkF m 180 #[.val (.int u0)] [(.int (64975 : Int32)), (.int u0)])) t := by
                                intro t k
                                show Steps p.tables e below (s₁.setTop (mkF m 180 #[.val (.int u0)] [(.int (64975 : Int32)), (.int u0)])) t
                                refine XS.icmpNo X0.here hx rfl (hb hby d2_180) rfl (flt h150).2.2.1 ?_
                                exact k
                              refine OFin.go S152 ?_
                              have S153 : ∀ t, Steps p.tables e below (s₁.setTop (mkF m 184 #[.val (.int u0)] [(.int (1 : Int32))])) t → Steps p.tables e below (s₁.setTop (mkF m 183 #[.val (.int u0)] [])) t := by
                                intro t k
                                show Steps p.tables e below (s₁.setTop (mkF m 183 #[.val (.int u0)] [])) t
                                refine XS.iconst X0.here hx rfl (hb hby d2_183) ?_
                                exact k
                              refine OFin.go S153 ?_
                              exact finZ X0 hx Bd.notSynchronized (t := .boolean) Bd.returns (by simp) (hb hby d2_184) rfl (by decide) (by decide) (⟨congrArg (fun z => some (Value.int z)) (show (1 : Int32) = bi _ from (bi_t (Or.inr (Or.inr (Or.inr (Or.inr (Or.inr (Or.inr (Or.inr (Or.inr (Or.inr (Or.inr (Or.inr (Or.inl h145))))))))))))).symm : (1 : Int32) = (fRef u0)), N0, e0⟩)
                        ·
                          have J154 : ∀ t, Steps p.tables e below (s₁.setTop (mkF m 185 #[.val (.int u0)] [])) t → Steps p.tables e below (s₁.setTop (mkF m 174 #[.val (.int u0)] [(.int (63744 : Int32)), (.int u0)])) t := by
                            intro t k
                            show Steps p.tables e below (s₁.setTop (mkF m 174 #[.val (.int u0)] [(.int (63744 : Int32)), (.int u0)])) t
                            by_cases h155 : (u0 < (63744 : Int32))
                            · refine XS.icmpYes X0.here hx rfl (pc0 := 174) (pc' := 185) rfl (hb hby d2_174) rfl (tlt h155).1 (by decide) (by decide) ?_
                              exact k
                            · refine XS.icmpNo X0.here hx rfl (hb hby d2_174) rfl (flt h155).1 ?_
                              show Steps p.tables e below (s₁.setTop (mkF m 177 #[.val (.int u0)] [])) t
                              refine XS.iloadN X0.here hx rfl (hb hby d2_177) rfl ?_
                              show Steps p.tables e below (s₁.setTop (mkF m 178 #[.val (.int u0)] [(.int u0)])) t
                              refine X0.ldcInt hx hown (mvT hZ (hw _ (List.mem_of_getElem? (i := 3) rfl))) (g := (mkF m 178 #[.val (.int u0)] [(.int u0)])) rfl (hb hby d2_178) _ ?_
                              show Steps p.tables e below (s₁.setTop (mkF m 180 #[.val (.int u0)] [(.int (64975 : Int32)), (.int u0)])) t
                              by_cases h156 : ((64975 : Int32) < u0)
                              · refine XS.icmpYes X0.here hx rfl (pc0 := 180) (pc' := 185) rfl (hb hby d2_180) rfl (tlt h156).2.2.1 (by decide) (by decide) ?_
                                exact k
                              · refine XS.icmpNo X0.here hx rfl (hb hby d2_180) rfl (flt h156).2.2.1 ?_
                                show Steps p.tables e below (s₁.setTop (mkF m 183 #[.val (.int u0)] [])) t
                                refine XS.iconst X0.here hx rfl (hb hby d2_183) ?_
                                exact absurd ⟨h155, h156⟩ h145
                          refine OFin.go J154 ?_
                          have S157 : ∀ t, Steps p.tables e below (s₁.setTop (mkF m 188 #[.val (.int u0)] [(.int (65008 : Int32)), (.int u0)])) t → Steps p.tables e below (s₁.setTop (mkF m 185 #[.val (.int u0)] [])) t := by
                            intro t k
                            show Steps p.tables e below (s₁.setTop (mkF m 185 #[.val (.int u0)] [])) t
                            refine XS.iloadN X0.here hx rfl (hb hby d2_185) rfl ?_
                            show Steps p.tables e below (s₁.setTop (mkF m 186 #[.val (.int u0)] [(.int u0)])) t
                            refine X0.ldcInt hx hown (mvT hZ (hw _ (List.mem_of_getElem? (i := 4) rfl))) (g := (mkF m 186 #[.val (.int u0)] [(.int u0)])) rfl (hb hby d2_186) _ ?_
                            exact k
                          refine OFin.go S157 ?_
                          by_cases h158 : (¬ (u0 < (65008 : Int32)) ∧ (¬ ((65533 : Int32) < u0)))
                          ·
                            by_cases h159 : (u0 < (65008 : Int32))
                            · -- pc 188: (u0 < (65008 : Int32))
                              have S160 : ∀ t, Steps p.tables e below (s₁.setTop (mkF m 199 #[.val (.int u0)] [])) t → Steps p.tables e below (s₁.setTop (mkF m 188 #[.val (.int u0)] [(.int (65008 : Int32)), (.int u0)])) t := by
                                intro t k
                                show Steps p.tables e below (s₁.setTop (mkF m 188 #[.val (.int u0)] [(.int (65008 : Int32)), (.int u0)])) t
                                refine XS.icmpYes X0.here hx rfl (pc0 := 188) (pc' := 199) rfl (hb hby d2_188) rfl (tlt h159).1 (by decide) (by decide) ?_
                                exact k
                              refine OFin.go S160 ?_
                              exact absurd h158 (fun q => q.1 h159)
                            · -- pc 188: not (u0 < (65008 : Int32))
                              have S161 : ∀ t, Steps p.tables e below (s₁.setTop (mkF m 191 #[.val (.int u0)] [])) t → Steps p.tables e below (s₁.setTop (mkF m 188 #[.val (.int u0)] [(.int (65008 : Int32)), (.int u0)])) t := by
                                intro t k
                                show Steps p.tables e below (s₁.setTop (mkF m 188 #[.val (.int u0)] [(.int (65008 : Int32)), (.int u0)])) t
                                refine XS.icmpNo X0.here hx rfl (hb hby d2_188) rfl (flt h159).1 ?_
                                exact k
                              refine OFin.go S161 ?_
                              have S162 : ∀ t, Steps p.tables e below (s₁.setTop (mkF m 194 #[.val (.int u0)] [(.int (65533 : Int32)), (.int u0)])) t → Steps p.tables e below (s₁.setTop (mkF m 191 #[.val (.int u0)] [])) t := by
                                intro t k
                                show Steps p.tables e below (s₁.setTop (mkF m 191 #[.val (.int u0)] [])) t
                                refine XS.iloadN X0.here hx rfl (hb hby d2_191) rfl ?_
                                show Steps p.tables e below (s₁.setTop (mkF m 192 #[.val (.int u0)] [(.int u0)])) t
                                refine X0.ldcInt hx hown (mvT hZ (hw _ (List.mem_of_getElem? (i := 5) rfl))) (g := (mkF m 192 #[.val (.int u0)] [(.int u0)])) rfl (hb hby d2_192) _ ?_
                                exact k
                              refine OFin.go S162 ?_
                              by_cases h163 : ((65533 : Int32) < u0)
                              · -- pc 194: ((65533 : Int32) < u0)
                                have S164 : ∀ t, Steps p.tables e below (s₁.setTop (mkF m 199 #[.val (.int u0)] [])) t → Steps p.tables e below (s₁.setTop (mkF m 194 #[.val (.int u0)] [(.int (65533 : Int32)), (.int u0)])) t := by
                                  intro t k
                                  show Steps p.tables e below (s₁.setTop (mkF m 194 #[.val (.int u0)] [(.int (65533 : Int32)), (.int u0)])) t
                                  refine XS.icmpYes X0.here hx rfl (pc0 := 194) (pc' := 199) rfl (hb hby d2_194) rfl (tlt h163).2.2.1 (by decide) (by decide) ?_
                                  exact k
                                refine OFin.go S164 ?_
                                exact absurd h158 (fun q => (fun q => q h163) q.2)
                              · -- pc 194: not ((65533 : Int32) < u0)
                                have S165 : ∀ t, Steps p.tables e below (s₁.setTop (mkF m 197 #[.val (.int u0)] [])) t → Steps p.tables e below (s₁.setTop (mkF m 194 #[.val (.int u0)] [(.int (65533 : Int32)), (.int u0)])) t := by
                                  intro t k
                                  show Steps p.tables e below (s₁.setTop (mkF m 194 #[.val (.int u0)] [(.int (65533 : Int32)), (.int u0)])) t
                                  refine XS.icmpNo X0.here hx rfl (hb hby d2_194) rfl (flt h163).2.2.1 ?_
                                  exact k
                                refine OFin.go S165 ?_
                                have S166 : ∀ t, Steps p.tables e below (s₁.setTop (mkF m 198 #[.val (.int u0)] [(.int (1 : Int32))])) t → Steps p.tables e below (s₁.setTop (mkF m 197 #[.val (.int u0)] [])) t := by
                                  intro t k
                                  show Steps p.tables e below (s₁.setTop (mkF m 197 #[.val (.int u0)] [])) t
                                  refine XS.iconst X0.here hx rfl (hb hby d2_197) ?_
                                  exact k
                                refine OFin.go S166 ?_
                                exact finZ X0 hx Bd.notSynchronized (t := .boolean) Bd.returns (by simp) (hb hby d2_198) rfl (by decide) (by decide) (⟨congrArg (fun z => some (Value.int z)) (show (1 : Int32) = bi _ from (bi_t (Or.inr (Or.inr (Or.inr (Or.inr (Or.inr (Or.inr (Or.inr (Or.inr (Or.inr (Or.inr (Or.inr (Or.inr (Or.inl h158)))))))))))))).symm : (1 : Int32) = (fRef u0)), N0, e0⟩)
                          ·
                            have J167 : ∀ t, Steps p.tables e below (s₁.setTop (mkF m 199 #[.val (.int u0)] [])) t → Steps p.tables e below (s₁.setTop (mkF m 188 #[.val (.int u0)] [(.int (65008 : Int32)), (.int u0)])) t := by
                              intro t k
                              show Steps p.tables e below (s₁.setTop (mkF m 188 #[.val (.int u0)] [(.int (65008 : Int32)), (.int u0)])) t
                              by_cases h168 : (u0 < (65008 : Int32))
                              · refine XS.icmpYes X0.here hx rfl (pc0 := 188) (pc' := 199) rfl (hb hby d2_188) rfl (tlt h168).1 (by decide) (by decide) ?_
                                exact k
                              · refine XS.icmpNo X0.here hx rfl (hb hby d2_188) rfl (flt h168).1 ?_
                                show Steps p.tables e below (s₁.setTop (mkF m 191 #[.val (.int u0)] [])) t
                                refine XS.iloadN X0.here hx rfl (hb hby d2_191) rfl ?_
                                show Steps p.tables e below (s₁.setTop (mkF m 192 #[.val (.int u0)] [(.int u0)])) t
                                refine X0.ldcInt hx hown (mvT hZ (hw _ (List.mem_of_getElem? (i := 5) rfl))) (g := (mkF m 192 #[.val (.int u0)] [(.int u0)])) rfl (hb hby d2_192) _ ?_
                                show Steps p.tables e below (s₁.setTop (mkF m 194 #[.val (.int u0)] [(.int (65533 : Int32)), (.int u0)])) t
                                by_cases h169 : ((65533 : Int32) < u0)
                                · refine XS.icmpYes X0.here hx rfl (pc0 := 194) (pc' := 199) rfl (hb hby d2_194) rfl (tlt h169).2.2.1 (by decide) (by decide) ?_
                                  exact k
                                · refine XS.icmpNo X0.here hx rfl (hb hby d2_194) rfl (flt h169).2.2.1 ?_
                                  show Steps p.tables e below (s₁.setTop (mkF m 197 #[.val (.int u0)] [])) t
                                  refine XS.iconst X0.here hx rfl (hb hby d2_197) ?_
                                  exact absurd ⟨h168, h169⟩ h158
                            refine OFin.go J167 ?_
                            have S170 : ∀ t, Steps p.tables e below (s₁.setTop (mkF m 202 #[.val (.int u0)] [(.int (65536 : Int32)), (.int u0)])) t → Steps p.tables e below (s₁.setTop (mkF m 199 #[.val (.int u0)] [])) t := by
                              intro t k
                              show Steps p.tables e below (s₁.setTop (mkF m 199 #[.val (.int u0)] [])) t
                              refine XS.iloadN X0.here hx rfl (hb hby d2_199) rfl ?_
                              show Steps p.tables e below (s₁.setTop (mkF m 200 #[.val (.int u0)] [(.int u0)])) t
                              refine X0.ldcInt hx hown (mvT hZ (hw _ (List.mem_of_getElem? (i := 6) rfl))) (g := (mkF m 200 #[.val (.int u0)] [(.int u0)])) rfl (hb hby d2_200) _ ?_
                              exact k
                            refine OFin.go S170 ?_
                            by_cases h171 : (¬ (u0 < (65536 : Int32)) ∧ (¬ ((983039 : Int32) < u0)))
                            ·
                              by_cases h172 : (u0 < (65536 : Int32))
                              · -- pc 202: (u0 < (65536 : Int32))
                                have S173 : ∀ t, Steps p.tables e below (s₁.setTop (mkF m 213 #[.val (.int u0)] [])) t → Steps p.tables e below (s₁.setTop (mkF m 202 #[.val (.int u0)] [(.int (65536 : Int32)), (.int u0)])) t := by
                                  intro t k
                                  show Steps p.tables e below (s₁.setTop (mkF m 202 #[.val (.int u0)] [(.int (65536 : Int32)), (.int u0)])) t
                                  refine XS.icmpYes X0.here hx rfl (pc0 := 202) (pc' := 213) rfl (hb hby d2_202) rfl (tlt h172).1 (by decide) (by decide) ?_
                                  exact k
                                refine OFin.go S173 ?_
                                exact absurd h171 (fun q => q.1 h172)
                              · -- pc 202: not (u0 < (65536 : Int32))
                                have S174 : ∀ t, Steps p.tables e below (s₁.setTop (mkF m 205 #[.val (.int u0)] [])) t → Steps p.tables e below (s₁.setTop (mkF m 202 #[.val (.int u0)] [(.int (65536 : Int32)), (.int u0)])) t := by
                                  intro t k
                                  show Steps p.tables e below (s₁.setTop (mkF m 202 #[.val (.int u0)] [(.int (65536 : Int32)), (.int u0)])) t
                                  refine XS.icmpNo X0.here hx rfl (hb hby d2_202) rfl (flt h172).1 ?_
                                  exact k
                                refine OFin.go S174 ?_
                                have S175 : ∀ t, Steps p.tables e below (s₁.setTop (mkF m 208 #[.val (.int u0)] [(.int (983039 : Int32)), (.int u0)])) t → Steps p.tables e below (s₁.setTop (mkF m 205 #[.val (.int u0)] [])) t := by
                                  intro t k
                                  show Steps p.tables e below (s₁.setTop (mkF m 205 #[.val (.int u0)] [])) t
                                  refine XS.iloadN X0.here hx rfl (hb hby d2_205) rfl ?_
                                  show Steps p.tables e below (s₁.setTop (mkF m 206 #[.val (.int u0)] [(.int u0)])) t
                                  refine X0.ldcInt hx hown (mvT hZ (hw _ (List.mem_of_getElem? (i := 7) rfl))) (g := (mkF m 206 #[.val (.int u0)] [(.int u0)])) rfl (hb hby d2_206) _ ?_
                                  exact k
                                refine OFin.go S175 ?_
                                by_cases h176 : ((983039 : Int32) < u0)
                                · -- pc 208: ((983039 : Int32) < u0)
                                  have S177 : ∀ t, Steps p.tables e below (s₁.setTop (mkF m 213 #[.val (.int u0)] [])) t → Steps p.tables e below (s₁.setTop (mkF m 208 #[.val (.int u0)] [(.int (983039 : Int32)), (.int u0)])) t := by
                                    intro t k
                                    show Steps p.tables e below (s₁.setTop (mkF m 208 #[.val (.int u0)] [(.int (983039 : Int32)), (.int u0)])) t
                                    refine XS.icmpYes X0.here hx rfl (pc0 := 208) (pc' := 213) rfl (hb hby d2_208) rfl (tlt h176).2.2.1 (by decide) (by decide) ?_
                                    exact k
                                  refine OFin.go S177 ?_
                                  exact absurd h171 (fun q => (fun q => q h176) q.2)
                                · -- pc 208: not ((983039 : Int32) < u0)
                                  have S178 : ∀ t, Steps p.tables e below (s₁.setTop (mkF m 211 #[.val (.int u0)] [])) t → Steps p.tables e below (s₁.setTop (mkF m 208 #[.val (.int u0)] [(.int (983039 : Int32)), (.int u0)])) t := by
                                    intro t k
                                    show Steps p.tables e below (s₁.setTop (mkF m 208 #[.val (.int u0)] [(.int (983039 : Int32)), (.int u0)])) t
                                    refine XS.icmpNo X0.here hx rfl (hb hby d2_208) rfl (flt h176).2.2.1 ?_
                                    exact k
                                  refine OFin.go S178 ?_
                                  have S179 : ∀ t, Steps p.tables e below (s₁.setTop (mkF m 212 #[.val (.int u0)] [(.int (1 : Int32))])) t → Steps p.tables e below (s₁.setTop (mkF m 211 #[.val (.int u0)] [])) t := by
                                    intro t k
                                    show Steps p.tables e below (s₁.setTop (mkF m 211 #[.val (.int u0)] [])) t
                                    refine XS.iconst X0.here hx rfl (hb hby d2_211) ?_
                                    exact k
                                  refine OFin.go S179 ?_
                                  exact finZ X0 hx Bd.notSynchronized (t := .boolean) Bd.returns (by simp) (hb hby d2_212) rfl (by decide) (by decide) (⟨congrArg (fun z => some (Value.int z)) (show (1 : Int32) = bi _ from (bi_t (Or.inr (Or.inr (Or.inr (Or.inr (Or.inr (Or.inr (Or.inr (Or.inr (Or.inr (Or.inr (Or.inr (Or.inr (Or.inr h171)))))))))))))).symm : (1 : Int32) = (fRef u0)), N0, e0⟩)
                            ·
                              have J180 : ∀ t, Steps p.tables e below (s₁.setTop (mkF m 213 #[.val (.int u0)] [])) t → Steps p.tables e below (s₁.setTop (mkF m 202 #[.val (.int u0)] [(.int (65536 : Int32)), (.int u0)])) t := by
                                intro t k
                                show Steps p.tables e below (s₁.setTop (mkF m 202 #[.val (.int u0)] [(.int (65536 : Int32)), (.int u0)])) t
                                by_cases h181 : (u0 < (65536 : Int32))
                                · refine XS.icmpYes X0.here hx rfl (pc0 := 202) (pc' := 213) rfl (hb hby d2_202) rfl (tlt h181).1 (by decide) (by decide) ?_
                                  exact k
                                · refine XS.icmpNo X0.here hx rfl (hb hby d2_202) rfl (flt h181).1 ?_
                                  show Steps p.tables e below (s₁.setTop (mkF m 205 #[.val (.int u0)] [])) t
                                  refine XS.iloadN X0.here hx rfl (hb hby d2_205) rfl ?_
                                  show Steps p.tables e below (s₁.setTop (mkF m 206 #[.val (.int u0)] [(.int u0)])) t
                                  refine X0.ldcInt hx hown (mvT hZ (hw _ (List.mem_of_getElem? (i := 7) rfl))) (g := (mkF m 206 #[.val (.int u0)] [(.int u0)])) rfl (hb hby d2_206) _ ?_
                                  show Steps p.tables e below (s₁.setTop (mkF m 208 #[.val (.int u0)] [(.int (983039 : Int32)), (.int u0)])) t
                                  by_cases h182 : ((983039 : Int32) < u0)
                                  · refine XS.icmpYes X0.here hx rfl (pc0 := 208) (pc' := 213) rfl (hb hby d2_208) rfl (tlt h182).2.2.1 (by decide) (by decide) ?_
                                    exact k
                                  · refine XS.icmpNo X0.here hx rfl (hb hby d2_208) rfl (flt h182).2.2.1 ?_
                                    show Steps p.tables e below (s₁.setTop (mkF m 211 #[.val (.int u0)] [])) t
                                    refine XS.iconst X0.here hx rfl (hb hby d2_211) ?_
                                    exact absurd ⟨h181, h182⟩ h171
                              refine OFin.go J180 ?_
                              have S183 : ∀ t, Steps p.tables e below (s₁.setTop (mkF m 214 #[.val (.int u0)] [(.int (0 : Int32))])) t → Steps p.tables e below (s₁.setTop (mkF m 213 #[.val (.int u0)] [])) t := by
                                intro t k
                                show Steps p.tables e below (s₁.setTop (mkF m 213 #[.val (.int u0)] [])) t
                                refine XS.iconst X0.here hx rfl (hb hby d2_213) ?_
                                exact k
                              refine OFin.go S183 ?_
                              exact finZ X0 hx Bd.notSynchronized (t := .boolean) Bd.returns (by simp) (hb hby d2_214) rfl (by decide) (by decide) (⟨congrArg (fun z => some (Value.int z)) (show (0 : Int32) = bi _ from (bi_f (fun q => q.elim h2 (fun q => q.elim h15 (fun q => q.elim h28 (fun q => q.elim h41 (fun q => q.elim h54 (fun q => q.elim h67 (fun q => q.elim h80 (fun q => q.elim h93 (fun q => q.elim h106 (fun q => q.elim h119 (fun q => q.elim h132 (fun q => q.elim h145 (fun q => q.elim h158 h171)))))))))))))).symm : (0 : Int32) = (fRef u0)), N0, e0⟩)
def ltr : Nat → Int32
  | 0 => 192
  | 1 => 214
  | 2 => 216
  | 3 => 246
  | 4 => 248
  | 5 => 767
  | 6 => 880
  | 7 => 893
  | 8 => 895
  | 9 => 8191
  | 10 => 8204
  | 11 => 8205
  | 12 => 8304
  | 13 => 8591
  | 14 => 11264
  | 15 => 12271
  | 16 => 12289
  | 17 => 55295
  | 18 => 63744
  | 19 => 64975
  | 20 => 65008
  | 21 => 65533
  | 22 => 65536
  | 23 => 983039
  | _ => 0
def nl (c : Int32) : Nat → Int32 → Int32
  | 0, _ => 0
  | k + 1, i => if (c < (ltr i.toNatClampNeg)) then nl c k (i + (2 : Int32)) else if ((ltr (i + (1 : Int32)).toNatClampNeg) < c) then nl c k (i + (2 : Int32)) else 1
theorem own_step {i : Int32} {k : Nat} (h0 : ¬ i < 0) (h : i.toNatClampNeg + 2 * (k + 1) = 24) : (¬ (i + (1 : Int32)) < 0 ∧ (i + (1 : Int32)).toNatClampNeg = i.toNatClampNeg + 1) ∧ (¬ (i + (2 : Int32)) < 0 ∧ (i + (2 : Int32)).toNatClampNeg = i.toNatClampNeg + 2) := by
  have h1 := nat_of h0
  have h2 : (i + 1).toInt = i.toInt + 1 := by have := c_iadd i 1; have := (i + 1).toInt_lt; have := (i + 1).le_toInt; simp only [Int32.reduceToInt] at *; omega
  have h3 : (i + 2).toInt = i.toInt + 2 := by have := c_iadd i 2; have := (i + 2).toInt_lt; have := (i + 2).le_toInt; simp only [Int32.reduceToInt] at *; omega
  have h4 : ¬ (i + 1) < 0 := by rw [Int32.lt_iff_toInt_lt, h2]; simp only [Int32.reduceToInt]; omega
  have h5 : ¬ (i + 2) < 0 := by rw [Int32.lt_iff_toInt_lt, h3]; simp only [Int32.reduceToInt]; omega
  have := nat_of h4; have := nat_of h5
  exact ⟨⟨h4, by omega⟩, h5, by omega⟩
def fAsc (u0 : Int32) : Int32 := (bi (((u0 < (97 : Int32)) ∧ (¬ (u0 < (65 : Int32)) ∧ (¬ ((90 : Int32) < u0)))) ∨ (¬ (u0 < (97 : Int32)) ∧ (¬ ((122 : Int32) < u0) ∨ (¬ (u0 < (65 : Int32)) ∧ (¬ ((90 : Int32) < u0)))))))
def fNL (u0 : Int32) : Int32 := if (u0 < (128 : Int32)) then fAsc u0 else nl u0 12 0
theorem ef_rm1 (m : MethodId) (u0 : Int32) : entryFrame m #[(.int u0)] 2 = mkF m 0 #[.val (.int u0), .unset] [] := by first | (simp [entryFrame, mkF, argsToLocals, Value.category]; done) | rfl
theorem pn_1 : plainName "com/example/godwit/godwit/model/QualifiedName" = true := by first | (simp [plainName, overriddenIn]; done) | decide +kernel
def Q_rm1 (Z : State) (u0 : Int32) (aL : Addr) (h0 : Heap) (n0 : Nat) (v : Option Value) (h : Heap) (L : List Loc) : Prop := v = some (.int (fNL u0)) ∧ Fr n0 L ∧ h = h0
theorem d1_0 : decode prog_33_method_5_code 0 = .ok (.iload_n 0, 1) := by decide +kernel
theorem d1_1 : decode prog_33_method_5_code 1 = .ok (.sipush 128, 3) := by decide +kernel
theorem d1_4 : decode prog_33_method_5_code 4 = .ok (.if_icmp .ge 33, 3) := by decide +kernel
theorem d1_7 : decode prog_33_method_5_code 7 = .ok (.iload_n 0, 1) := by decide +kernel
theorem d1_8 : decode prog_33_method_5_code 8 = .ok (.bipush 97, 2) := by decide +kernel
theorem d1_10 : decode prog_33_method_5_code 10 = .ok (.if_icmp .lt 9, 3) := by decide +kernel
theorem d1_19 : decode prog_33_method_5_code 19 = .ok (.iload_n 0, 1) := by decide +kernel
theorem d1_20 : decode prog_33_method_5_code 20 = .ok (.bipush 65, 2) := by decide +kernel
theorem d1_22 : decode prog_33_method_5_code 22 = .ok (.if_icmp .lt 13, 3) := by decide +kernel
theorem d1_35 : decode prog_33_method_5_code 35 = .ok (.iconst 0, 1) := by decide +kernel
theorem d1_25 : decode prog_33_method_5_code 25 = .ok (.iload_n 0, 1) := by decide +kernel
theorem d1_26 : decode prog_33_method_5_code 26 = .ok (.bipush 90, 2) := by decide +kernel
theorem d1_28 : decode prog_33_method_5_code 28 = .ok (.if_icmp .gt 7, 3) := by decide +kernel
theorem d1_31 : decode prog_33_method_5_code 31 = .ok (.iconst 1, 1) := by decide +kernel
theorem d1_32 : decode prog_33_method_5_code 32 = .ok (.goto 4, 3) := by decide +kernel
theorem d1_13 : decode prog_33_method_5_code 13 = .ok (.iload_n 0, 1) := by decide +kernel
theorem d1_14 : decode prog_33_method_5_code 14 = .ok (.bipush 122, 2) := by decide +kernel
theorem d1_16 : decode prog_33_method_5_code 16 = .ok (.if_icmp .le 15, 3) := by decide +kernel
theorem d1_36 : decode prog_33_method_5_code 36 = .ok (.ireturn, 1) := by decide +kernel
theorem d1_37 : decode prog_33_method_5_code 37 = .ok (.iconst 0, 1) := by decide +kernel
theorem d1_38 : decode prog_33_method_5_code 38 = .ok (.istore_n 1, 1) := by decide +kernel
theorem d1_39 : decode prog_33_method_5_code 39 = .ok (.iload_n 1, 1) := by decide +kernel
theorem d1_40 : decode prog_33_method_5_code 40 = .ok (.getstatic 66, 3) := by decide +kernel
theorem d1_43 : decode prog_33_method_5_code 43 = .ok (.arraylength, 1) := by decide +kernel
theorem d1_44 : decode prog_33_method_5_code 44 = .ok (.if_icmp .ge 31, 3) := by decide +kernel
theorem d1_75 : decode prog_33_method_5_code 75 = .ok (.iconst 0, 1) := by decide +kernel
theorem d1_76 : decode prog_33_method_5_code 76 = .ok (.ireturn, 1) := by decide +kernel
theorem d1_47 : decode prog_33_method_5_code 47 = .ok (.iload_n 0, 1) := by decide +kernel
theorem d1_48 : decode prog_33_method_5_code 48 = .ok (.getstatic 66, 3) := by decide +kernel
theorem d1_51 : decode prog_33_method_5_code 51 = .ok (.iload_n 1, 1) := by decide +kernel
theorem d1_52 : decode prog_33_method_5_code 52 = .ok (.iaload, 1) := by decide +kernel
theorem d1_53 : decode prog_33_method_5_code 53 = .ok (.if_icmp .lt 16, 3) := by decide +kernel
theorem d1_69 : decode prog_33_method_5_code 69 = .ok (.iinc 1 2, 3) := by decide +kernel
theorem d1_72 : decode prog_33_method_5_code 72 = .ok (.goto (-33), 3) := by decide +kernel
theorem d1_56 : decode prog_33_method_5_code 56 = .ok (.iload_n 0, 1) := by decide +kernel
theorem d1_57 : decode prog_33_method_5_code 57 = .ok (.getstatic 66, 3) := by decide +kernel
theorem d1_60 : decode prog_33_method_5_code 60 = .ok (.iload_n 1, 1) := by decide +kernel
theorem d1_61 : decode prog_33_method_5_code 61 = .ok (.iconst 1, 1) := by decide +kernel
theorem d1_62 : decode prog_33_method_5_code 62 = .ok (.iadd, 1) := by decide +kernel
theorem d1_63 : decode prog_33_method_5_code 63 = .ok (.iaload, 1) := by decide +kernel
theorem d1_64 : decode prog_33_method_5_code 64 = .ok (.if_icmp .gt 5, 3) := by decide +kernel
theorem d1_67 : decode prog_33_method_5_code 67 = .ok (.iconst 1, 1) := by decide +kernel
theorem d1_68 : decode prog_33_method_5_code 68 = .ok (.ireturn, 1) := by decide +kernel
set_option maxRecDepth 65536 in
set_option maxHeartbeats 40000000 in
theorem rm1 (l : Launch) (Z : State) (a0 : Array Value) (hw : ∀ d ∈ tables_1, d.before a0 Z = true) (ws : List Jvm.Cond) (u0 : Int32) (aL : Addr) (h0 : Heap) (n0 : Nat) (Z0 : n0 ≤ h0.size) (SL : Sta Z h0 "com/example/godwit/godwit/model/QualifiedName" "LETTERS" "[I" (.ref aL)) (VL : Ara Z h0 aL .int 24 (fun i => .int (ltr i))) :
    MetFree l (⟨"com/example/godwit/godwit/model/QualifiedName", "isNameLetter", "(I)Z"⟩ : MethodName) (head1 (Jvm.Cond.code (⟨"com/example/godwit/godwit/model/QualifiedName", "isNameLetter", "(I)Z"⟩ : MethodName) prog_33_method_5_code 2 (some .boolean) :: ws) ({ frames := 0, cells := 0, slots := 0, locals := 0 } : Room)) (fun a U => a = #[(.int u0)] ∧ Z.Warmed39 U.vm ∧ U.heap = h0) (fun _ _ _ _ _ => True) (fun _ U o U' => ∃ v L, o = .returned v ∧ (Q_rm1 Z u0 aL h0 n0) v U'.heap L ∧ FrameEnd U o U' L ({ frames := 0, cells := 0, slots := 0, locals := 0 } : Room).cells ({ frames := 0, cells := 0, slots := 0, locals := 0 } : Room).slots) := by
  refine MetFree.of_bodySF (plainFor_of_name pn_1) hisR ?_
  intro p e s m args below meth c s₁ Bd hml0 hP hK
  obtain ⟨rfl, hZ, hh⟩ := hP
  have hx := Bd.exec
  have hby := Bd.bytes
  have hml : c.maxLocals = 2 := hml0
  have hown : s.vm.findClass "com/example/godwit/godwit/model/QualifiedName" = some m.cls := findClass_of_methodNamed Bd.named
  have hnm := (name_of_methodNamed Bd.named Bd.method).1
  have X0 : Stand p l e ({ frames := 0, cells := 0, slots := 0, locals := 0 } : Room) s m #[(.int u0)] below meth c s₁ [] 0 0 := Stand.of_body Bd
  have e0 : s₁.heap = h0 := by rw [← hh, Bd.state]; rfl
  have N0 := Fr.nil n0
  show OFin p e below (ORet (Q_rm1 Z u0 aL h0 n0) s ({ frames := 0, cells := 0, slots := 0, locals := 0 } : Room).cells ({ frames := 0, cells := 0, slots := 0, locals := 0 } : Room).slots) (s₁.setTop (entryFrame m #[(.int u0)] 2))
  refine OFin.go (fun t k => castTop (ef_rm1 m u0) k) ?_
  show OFin p e below (ORet (Q_rm1 Z u0 aL h0 n0) s ({ frames := 0, cells := 0, slots := 0, locals := 0 } : Room).cells ({ frames := 0, cells := 0, slots := 0, locals := 0 } : Room).slots) (s₁.setTop (mkF m 0 #[.val (.int u0), .unset] []))
  have S1 : ∀ t, Steps p.tables e below (s₁.setTop (mkF m 4 #[.val (.int u0), .unset] [(.int (128 : Int32)), (.int u0)])) t → Steps p.tables e below (s₁.setTop (mkF m 0 #[.val (.int u0), .unset] [])) t := by
    intro t k
    show Steps p.tables e below (s₁.setTop (mkF m 0 #[.val (.int u0), .unset] [])) t
    refine XS.iloadN X0.here hx rfl (hb hby d1_0) rfl ?_
    show Steps p.tables e below (s₁.setTop (mkF m 1 #[.val (.int u0), .unset] [(.int u0)])) t
    refine XS.sipush X0.here hx rfl (hb hby d1_1) ?_
    exact k
  refine OFin.go S1 ?_
  by_cases h2 : (u0 < (128 : Int32))
  · -- pc 4: (u0 < (128 : Int32))
    have S3 : ∀ t, Steps p.tables e below (s₁.setTop (mkF m 7 #[.val (.int u0), .unset] [])) t → Steps p.tables e below (s₁.setTop (mkF m 4 #[.val (.int u0), .unset] [(.int (128 : Int32)), (.int u0)])) t := by
      intro t k
      show Steps p.tables e below (s₁.setTop (mkF m 4 #[.val (.int u0), .unset] [(.int (128 : Int32)), (.int u0)])) t
      refine XS.icmpNo X0.here hx rfl (hb hby d1_4) rfl (tlt h2).2.1 ?_
      exact k
    refine OFin.go S3 ?_
    have S4 : ∀ t, Steps p.tables e below (s₁.setTop (mkF m 10 #[.val (.int u0), .unset] [(.int (97 : Int32)), (.int u0)])) t → Steps p.tables e below (s₁.setTop (mkF m 7 #[.val (.int u0), .unset] [])) t := by
      intro t k
      show Steps p.tables e below (s₁.setTop (mkF m 7 #[.val (.int u0), .unset] [])) t
      refine XS.iloadN X0.here hx rfl (hb hby d1_7) rfl ?_
      show Steps p.tables e below (s₁.setTop (mkF m 8 #[.val (.int u0), .unset] [(.int u0)])) t
      refine XS.bipush X0.here hx rfl (hb hby d1_8) ?_
      exact k
    refine OFin.go S4 ?_
    have J5 : ∀ t, Steps p.tables e below (s₁.setTop (mkF m 36 #[.val (.int u0), .unset] [(.int (bi (((u0 < (97 : Int32)) ∧ (¬ (u0 < (65 : Int32)) ∧ (¬ ((90 : Int32) < u0)))) ∨ (¬ (u0 < (97 : Int32)) ∧ (¬ ((122 : Int32) < u0) ∨ (¬ (u0 < (65 : Int32)) ∧ (¬ ((90 : Int32) < u0))))))))])) t → Steps p.tables e below (s₁.setTop (mkF m 10 #[.val (.int u0), .unset] [(.int (97 : Int32)), (.int u0)])) t := by
      intro t k
      show Steps p.tables e below (s₁.setTop (mkF m 10 #[.val (.int u0), .unset] [(.int (97 : Int32)), (.int u0)])) t
      by_cases h6 : (u0 < (97 : Int32))
      · refine XS.icmpYes X0.here hx rfl (pc0 := 10) (pc' := 19) rfl (hb hby d1_10) rfl (tlt h6).1 (by decide) (by decide) ?_
        show Steps p.tables e below (s₁.setTop (mkF m 19 #[.val (.int u0), .unset] [])) t
        refine XS.iloadN X0.here hx rfl (hb hby d1_19) rfl ?_
        show Steps p.tables e below (s₁.setTop (mkF m 20 #[.val (.int u0), .unset] [(.int u0)])) t
        refine XS.bipush X0.here hx rfl (hb hby d1_20) ?_
        show Steps p.tables e below (s₁.setTop (mkF m 22 #[.val (.int u0), .unset] [(.int (65 : Int32)), (.int u0)])) t
        by_cases h7 : (u0 < (65 : Int32))
        · refine XS.icmpYes X0.here hx rfl (pc0 := 22) (pc' := 35) rfl (hb hby d1_22) rfl (tlt h7).1 (by decide) (by decide) ?_
          show Steps p.tables e below (s₁.setTop (mkF m 35 #[.val (.int u0), .unset] [])) t
          refine XS.iconst X0.here hx rfl (hb hby d1_35) ?_
          show Steps p.tables e below (s₁.setTop (mkF m 36 #[.val (.int u0), .unset] [(.int (0 : Int32))])) t
          exact (castTop (congrArg (fun z => (mkF m 36 #[.val (.int u0), .unset] [(.int z)])) (bi_f (fun q => q.elim (fun r => (fun q => q.1 h7) r.2) (fun r => r.1 h6))).symm) k)
        · refine XS.icmpNo X0.here hx rfl (hb hby d1_22) rfl (flt h7).1 ?_
          show Steps p.tables e below (s₁.setTop (mkF m 25 #[.val (.int u0), .unset] [])) t
          refine XS.iloadN X0.here hx rfl (hb hby d1_25) rfl ?_
          show Steps p.tables e below (s₁.setTop (mkF m 26 #[.val (.int u0), .unset] [(.int u0)])) t
          refine XS.bipush X0.here hx rfl (hb hby d1_26) ?_
          show Steps p.tables e below (s₁.setTop (mkF m 28 #[.val (.int u0), .unset] [(.int (90 : Int32)), (.int u0)])) t
          by_cases h8 : ((90 : Int32) < u0)
          · refine XS.icmpYes X0.here hx rfl (pc0 := 28) (pc' := 35) rfl (hb hby d1_28) rfl (tlt h8).2.2.1 (by decide) (by decide) ?_
            show Steps p.tables e below (s₁.setTop (mkF m 35 #[.val (.int u0), .unset] [])) t
            refine XS.iconst X0.here hx rfl (hb hby d1_35) ?_
            show Steps p.tables e below (s₁.setTop (mkF m 36 #[.val (.int u0), .unset] [(.int (0 : Int32))])) t
            exact (castTop (congrArg (fun z => (mkF m 36 #[.val (.int u0), .unset] [(.int z)])) (bi_f (fun q => q.elim (fun r => (fun q => (fun q => q h8) q.2) r.2) (fun r => r.1 h6))).symm) k)
          · refine XS.icmpNo X0.here hx rfl (hb hby d1_28) rfl (flt h8).2.2.1 ?_
            show Steps p.tables e below (s₁.setTop (mkF m 31 #[.val (.int u0), .unset] [])) t
            refine XS.iconst X0.here hx rfl (hb hby d1_31) ?_
            show Steps p.tables e below (s₁.setTop (mkF m 32 #[.val (.int u0), .unset] [(.int (1 : Int32))])) t
            refine XS.goto X0.here hx rfl (pc0 := 32) (pc' := 36) rfl (hb hby d1_32) (by decide) (by decide) ?_
            show Steps p.tables e below (s₁.setTop (mkF m 36 #[.val (.int u0), .unset] [(.int (1 : Int32))])) t
            exact (castTop (congrArg (fun z => (mkF m 36 #[.val (.int u0), .unset] [(.int z)])) (bi_t (Or.inl ⟨h6, ⟨h7, h8⟩⟩)).symm) k)
      · refine XS.icmpNo X0.here hx rfl (hb hby d1_10) rfl (flt h6).1 ?_
        show Steps p.tables e below (s₁.setTop (mkF m 13 #[.val (.int u0), .unset] [])) t
        refine XS.iloadN X0.here hx rfl (hb hby d1_13) rfl ?_
        show Steps p.tables e below (s₁.setTop (mkF m 14 #[.val (.int u0), .unset] [(.int u0)])) t
        refine XS.bipush X0.here hx rfl (hb hby d1_14) ?_
        show Steps p.tables e below (s₁.setTop (mkF m 16 #[.val (.int u0), .unset] [(.int (122 : Int32)), (.int u0)])) t
        by_cases h9 : ((122 : Int32) < u0)
        · refine XS.icmpNo X0.here hx rfl (hb hby d1_16) rfl (tlt h9).2.2.2 ?_
          show Steps p.tables e below (s₁.setTop (mkF m 19 #[.val (.int u0), .unset] [])) t
          refine XS.iloadN X0.here hx rfl (hb hby d1_19) rfl ?_
          show Steps p.tables e below (s₁.setTop (mkF m 20 #[.val (.int u0), .unset] [(.int u0)])) t
          refine XS.bipush X0.here hx rfl (hb hby d1_20) ?_
          show Steps p.tables e below (s₁.setTop (mkF m 22 #[.val (.int u0), .unset] [(.int (65 : Int32)), (.int u0)])) t
          by_cases h10 : (u0 < (65 : Int32))
          · refine XS.icmpYes X0.here hx rfl (pc0 := 22) (pc' := 35) rfl (hb hby d1_22) rfl (tlt h10).1 (by decide) (by decide) ?_
            show Steps p.tables e below (s₁.setTop (mkF m 35 #[.val (.int u0), .unset] [])) t
            refine XS.iconst X0.here hx rfl (hb hby d1_35) ?_
            show Steps p.tables e below (s₁.setTop (mkF m 36 #[.val (.int u0), .unset] [(.int (0 : Int32))])) t
            exact (castTop (congrArg (fun z => (mkF m 36 #[.val (.int u0), .unset] [(.int z)])) (bi_f (fun q => q.elim (fun r => h6 r.1) (fun r => (fun q => q.elim (fun r => r h9) (fun q => q.1 h10)) r.2))).symm) k)
          · refine XS.icmpNo X0.here hx rfl (hb hby d1_22) rfl (flt h10).1 ?_
            show Steps p.tables e below (s₁.setTop (mkF m 25 #[.val (.int u0), .unset] [])) t
            refine XS.iloadN X0.here hx rfl (hb hby d1_25) rfl ?_
            show Steps p.tables e below (s₁.setTop (mkF m 26 #[.val (.int u0), .unset] [(.int u0)])) t
            refine XS.bipush X0.here hx rfl (hb hby d1_26) ?_
            show Steps p.tables e below (s₁.setTop (mkF m 28 #[.val (.int u0), .unset] [(.int (90 : Int32)), (.int u0)])) t
            by_cases h11 : ((90 : Int32) < u0)
            · refine XS.icmpYes X0.here hx rfl (pc0 := 28) (pc' := 35) rfl (hb hby d1_28) rfl (tlt h11).2.2.1 (by decide) (by decide) ?_
              show Steps p.tables e below (s₁.setTop (mkF m 35 #[.val (.int u0), .unset] [])) t
              refine XS.iconst X0.here hx rfl (hb hby d1_35) ?_
              show Steps p.tables e below (s₁.setTop (mkF m 36 #[.val (.int u0), .unset] [(.int (0 : Int32))])) t
              exact (castTop (congrArg (fun z => (mkF m 36 #[.val (.int u0), .unset] [(.int z)])) (bi_f (fun q => q.elim (fun r => h6 r.1) (fun r => (fun q => q.elim (fun r => r h9) (fun q => (fun q => q h11) q.2)) r.2))).symm) k)
            · refine XS.icmpNo X0.here hx rfl (hb hby d1_28) rfl (flt h11).2.2.1 ?_
              show Steps p.tables e below (s₁.setTop (mkF m 31 #[.val (.int u0), .unset] [])) t
              refine XS.iconst X0.here hx rfl (hb hby d1_31) ?_
              show Steps p.tables e below (s₁.setTop (mkF m 32 #[.val (.int u0), .unset] [(.int (1 : Int32))])) t
              refine XS.goto X0.here hx rfl (pc0 := 32) (pc' := 36) rfl (hb hby d1_32) (by decide) (by decide) ?_
              show Steps p.tables e below (s₁.setTop (mkF m 36 #[.val (.int u0), .unset] [(.int (1 : Int32))])) t
              exact (castTop (congrArg (fun z => (mkF m 36 #[.val (.int u0), .unset] [(.int z)])) (bi_t (Or.inr ⟨h6, (Or.inr ⟨h10, h11⟩)⟩)).symm) k)
        · refine XS.icmpYes X0.here hx rfl (pc0 := 16) (pc' := 31) rfl (hb hby d1_16) rfl (flt h9).2.2.2 (by decide) (by decide) ?_
          show Steps p.tables e below (s₁.setTop (mkF m 31 #[.val (.int u0), .unset] [])) t
          refine XS.iconst X0.here hx rfl (hb hby d1_31) ?_
          show Steps p.tables e below (s₁.setTop (mkF m 32 #[.val (.int u0), .unset] [(.int (1 : Int32))])) t
          refine XS.goto X0.here hx rfl (pc0 := 32) (pc' := 36) rfl (hb hby d1_32) (by decide) (by decide) ?_
          show Steps p.tables e below (s₁.setTop (mkF m 36 #[.val (.int u0), .unset] [(.int (1 : Int32))])) t
          exact (castTop (congrArg (fun z => (mkF m 36 #[.val (.int u0), .unset] [(.int z)])) (bi_t (Or.inr ⟨h6, (Or.inl h9)⟩)).symm) k)
    refine OFin.go J5 ?_
    exact finZ X0 hx Bd.notSynchronized (t := .boolean) Bd.returns (by simp) (hb hby d1_36) (nar_bi _) (by decide) (by decide) (⟨congrArg (fun z => some (Value.int z)) (show (bi (((u0 < (97 : Int32)) ∧ (¬ (u0 < (65 : Int32)) ∧ (¬ ((90 : Int32) < u0)))) ∨ (¬ (u0 < (97 : Int32)) ∧ (¬ ((122 : Int32) < u0) ∨ (¬ (u0 < (65 : Int32)) ∧ (¬ ((90 : Int32) < u0))))))) = fNL u0 from (if_pos h2).symm), N0, e0⟩)
  · -- pc 4: not (u0 < (128 : Int32))
    have S12 : ∀ t, Steps p.tables e below (s₁.setTop (mkF m 37 #[.val (.int u0), .unset] [])) t → Steps p.tables e below (s₁.setTop (mkF m 4 #[.val (.int u0), .unset] [(.int (128 : Int32)), (.int u0)])) t := by
      intro t k
      show Steps p.tables e below (s₁.setTop (mkF m 4 #[.val (.int u0), .unset] [(.int (128 : Int32)), (.int u0)])) t
      refine XS.icmpYes X0.here hx rfl (pc0 := 4) (pc' := 37) rfl (hb hby d1_4) rfl (flt h2).2.1 (by decide) (by decide) ?_
      exact k
    refine OFin.go S12 ?_
    have S13 : ∀ t, Steps p.tables e below (s₁.setTop (mkF m 39 #[.val (.int u0), .val (.int (0 : Int32))] [])) t → Steps p.tables e below (s₁.setTop (mkF m 37 #[.val (.int u0), .unset] [])) t := by
      intro t k
      show Steps p.tables e below (s₁.setTop (mkF m 37 #[.val (.int u0), .unset] [])) t
      refine XS.iconst X0.here hx rfl (hb hby d1_37) ?_
      show Steps p.tables e below (s₁.setTop (mkF m 38 #[.val (.int u0), .unset] [(.int (0 : Int32))])) t
      refine XS.istoreN X0.here hx rfl (hb hby d1_38) rfl (l' := #[.val (.int u0), .val (.int (0 : Int32))]) rfl ?_
      exact k
    refine OFin.go S13 ?_
    have LOOP14 : ∀ (k : Nat) (Tk : State) (lo : List Loc) (ce sl : Nat) (Xk : Stand p l e ({ frames := 0, cells := 0, slots := 0, locals := 0 } : Room) s m #[(.int u0)] below meth c Tk lo ce sl) (ek : Tk.heap = h0) (Nk : Fr n0 lo) (hce : ce ≤ ({ frames := 0, cells := 0, slots := 0, locals := 0 } : Room).cells) (hsl : sl ≤ ({ frames := 0, cells := 0, slots := 0, locals := 0 } : Room).slots) (i : Int32), ¬ i < 0 ∧ i.toNatClampNeg + 2 * k = 24 ∧ nl u0 k i = nl u0 12 0 → OFin p e below (ORet (Q_rm1 Z u0 aL h0 n0) s ({ frames := 0, cells := 0, slots := 0, locals := 0 } : Room).cells ({ frames := 0, cells := 0, slots := 0, locals := 0 } : Room).slots) (Tk.setTop (mkF m 39 #[.val (.int u0), .val (.int i)] [])) := by
      intro k
      induction k with
      | zero =>
        intro Tk lo ce sl Xk ek Nk hce hsl i  hinv
        have S15 : ∀ t, Steps p.tables e below (Tk.setTop (mkF m 40 #[.val (.int u0), .val (.int i)] [(.int i)])) t → Steps p.tables e below (Tk.setTop (mkF m 39 #[.val (.int u0), .val (.int i)] [])) t := by
          intro t k
          show Steps p.tables e below (Tk.setTop (mkF m 39 #[.val (.int u0), .val (.int i)] [])) t
          refine XS.iloadN Xk.here hx rfl (hb hby d1_39) rfl ?_
          exact k
        refine OFin.go S15 ?_
        obtain ⟨T16, X16, e16, st16⟩ := getS2 Xk hx hZ hown (host := "") (Or.inl (hw _ (List.mem_of_getElem? (i := 16) rfl))) Via.refl ek SL (g := (mkF m 40 #[.val (.int u0), .val (.int i)] [(.int i)])) rfl (hb hby d1_40)
        refine OFin.go st16 ?_
        show OFin p e below _ (T16.setTop (mkF m 43 #[.val (.int u0), .val (.int i)] [(.ref aL), (.int i)]))
        have S17 : ∀ t, Steps p.tables e below (T16.setTop (mkF m 44 #[.val (.int u0), .val (.int i)] [(.int (24 : Int32)), (.int i)])) t → Steps p.tables e below (T16.setTop (mkF m 43 #[.val (.int u0), .val (.int i)] [(.ref aL), (.int i)])) t := by
          intro t k
          show Steps p.tables e below (T16.setTop (mkF m 43 #[.val (.int u0), .val (.int i)] [(.ref aL), (.int i)])) t
          refine alen X16 hx hZ e16 VL (z := (24 : Int32)) rfl (g := (mkF m 43 #[.val (.int u0), .val (.int i)] [(.ref aL), (.int i)])) rfl rfl (hb hby d1_43) ?_
          exact k
        refine OFin.go S17 ?_
        have S18 : ∀ t, Steps p.tables e below (T16.setTop (mkF m 75 #[.val (.int u0), .val (.int i)] [])) t → Steps p.tables e below (T16.setTop (mkF m 44 #[.val (.int u0), .val (.int i)] [(.int (24 : Int32)), (.int i)])) t := by
          intro t k
          show Steps p.tables e below (T16.setTop (mkF m 44 #[.val (.int u0), .val (.int i)] [(.int (24 : Int32)), (.int i)])) t
          refine XS.icmpYes X16.here hx rfl (pc0 := 44) (pc' := 75) rfl (hb hby d1_44) rfl (flt (by have h1 := nat_of hinv.1; rw [Int32.lt_iff_toInt_lt]; simp only [Int32.reduceToInt]; omega)).2.1 (by decide) (by decide) ?_
          exact k
        refine OFin.go S18 ?_
        have S19 : ∀ t, Steps p.tables e below (T16.setTop (mkF m 76 #[.val (.int u0), .val (.int i)] [(.int (0 : Int32))])) t → Steps p.tables e below (T16.setTop (mkF m 75 #[.val (.int u0), .val (.int i)] [])) t := by
          intro t k
          show Steps p.tables e below (T16.setTop (mkF m 75 #[.val (.int u0), .val (.int i)] [])) t
          refine XS.iconst X16.here hx rfl (hb hby d1_75) ?_
          exact k
        refine OFin.go S19 ?_
        exact finZ X16 hx Bd.notSynchronized (t := .boolean) Bd.returns (by simp) (hb hby d1_76) rfl hce hsl (⟨congrArg (fun z => some (Value.int z)) (show (0 : Int32) = fNL u0 from (show (0 : Int32) = nl u0 12 0 from hinv.2.2).trans (if_neg h2).symm), Nk, e16⟩)
      | succ k ih =>
        intro Tk lo ce sl Xk ek Nk hce hsl i  hinv
        have S20 : ∀ t, Steps p.tables e below (Tk.setTop (mkF m 40 #[.val (.int u0), .val (.int i)] [(.int i)])) t → Steps p.tables e below (Tk.setTop (mkF m 39 #[.val (.int u0), .val (.int i)] [])) t := by
          intro t k
          show Steps p.tables e below (Tk.setTop (mkF m 39 #[.val (.int u0), .val (.int i)] [])) t
          refine XS.iloadN Xk.here hx rfl (hb hby d1_39) rfl ?_
          exact k
        refine OFin.go S20 ?_
        obtain ⟨T21, X21, e21, st21⟩ := getS2 Xk hx hZ hown (host := "") (Or.inl (hw _ (List.mem_of_getElem? (i := 16) rfl))) Via.refl ek SL (g := (mkF m 40 #[.val (.int u0), .val (.int i)] [(.int i)])) rfl (hb hby d1_40)
        refine OFin.go st21 ?_
        show OFin p e below _ (T21.setTop (mkF m 43 #[.val (.int u0), .val (.int i)] [(.ref aL), (.int i)]))
        have S22 : ∀ t, Steps p.tables e below (T21.setTop (mkF m 44 #[.val (.int u0), .val (.int i)] [(.int (24 : Int32)), (.int i)])) t → Steps p.tables e below (T21.setTop (mkF m 43 #[.val (.int u0), .val (.int i)] [(.ref aL), (.int i)])) t := by
          intro t k
          show Steps p.tables e below (T21.setTop (mkF m 43 #[.val (.int u0), .val (.int i)] [(.ref aL), (.int i)])) t
          refine alen X21 hx hZ e21 VL (z := (24 : Int32)) rfl (g := (mkF m 43 #[.val (.int u0), .val (.int i)] [(.ref aL), (.int i)])) rfl rfl (hb hby d1_43) ?_
          exact k
        refine OFin.go S22 ?_
        have S23 : ∀ t, Steps p.tables e below (T21.setTop (mkF m 47 #[.val (.int u0), .val (.int i)] [])) t → Steps p.tables e below (T21.setTop (mkF m 44 #[.val (.int u0), .val (.int i)] [(.int (24 : Int32)), (.int i)])) t := by
          intro t k
          show Steps p.tables e below (T21.setTop (mkF m 44 #[.val (.int u0), .val (.int i)] [(.int (24 : Int32)), (.int i)])) t
          refine XS.icmpNo X21.here hx rfl (hb hby d1_44) rfl (tlt (by have h1 := nat_of hinv.1; rw [Int32.lt_iff_toInt_lt]; simp only [Int32.reduceToInt]; omega)).2.1 ?_
          exact k
        refine OFin.go S23 ?_
        have S24 : ∀ t, Steps p.tables e below (T21.setTop (mkF m 48 #[.val (.int u0), .val (.int i)] [(.int u0)])) t → Steps p.tables e below (T21.setTop (mkF m 47 #[.val (.int u0), .val (.int i)] [])) t := by
          intro t k
          show Steps p.tables e below (T21.setTop (mkF m 47 #[.val (.int u0), .val (.int i)] [])) t
          refine XS.iloadN X21.here hx rfl (hb hby d1_47) rfl ?_
          exact k
        refine OFin.go S24 ?_
        obtain ⟨T25, X25, e25, st25⟩ := getS2 X21 hx hZ hown (host := "") (Or.inl (hw _ (List.mem_of_getElem? (i := 16) rfl))) Via.refl e21 SL (g := (mkF m 48 #[.val (.int u0), .val (.int i)] [(.int u0)])) rfl (hb hby d1_48)
        refine OFin.go st25 ?_
        show OFin p e below _ (T25.setTop (mkF m 51 #[.val (.int u0), .val (.int i)] [(.ref aL), (.int u0)]))
        have S26 : ∀ t, Steps p.tables e below (T25.setTop (mkF m 53 #[.val (.int u0), .val (.int i)] [(.int (ltr i.toNatClampNeg)), (.int u0)])) t → Steps p.tables e below (T25.setTop (mkF m 51 #[.val (.int u0), .val (.int i)] [(.ref aL), (.int u0)])) t := by
          intro t k
          show Steps p.tables e below (T25.setTop (mkF m 51 #[.val (.int u0), .val (.int i)] [(.ref aL), (.int u0)])) t
          refine XS.iloadN X25.here hx rfl (hb hby d1_51) rfl ?_
          show Steps p.tables e below (T25.setTop (mkF m 52 #[.val (.int u0), .val (.int i)] [(.int i), (.ref aL), (.int u0)])) t
          refine rdI X25 hx hZ e25 VL (i := i.toNatClampNeg) hinv.1 rfl (by omega) (x := (.int (ltr i.toNatClampNeg))) rfl (g := (mkF m 52 #[.val (.int u0), .val (.int i)] [(.int i), (.ref aL), (.int u0)])) rfl rfl (hb hby d1_52) ?_
          exact k
        refine OFin.go S26 ?_
        by_cases h27 : (u0 < (ltr i.toNatClampNeg))
        · -- pc 53: (u0 < (ltr i.toNatClampNeg))
          have S28 : ∀ t, Steps p.tables e below (T25.setTop (mkF m 69 #[.val (.int u0), .val (.int i)] [])) t → Steps p.tables e below (T25.setTop (mkF m 53 #[.val (.int u0), .val (.int i)] [(.int (ltr i.toNatClampNeg)), (.int u0)])) t := by
            intro t k
            show Steps p.tables e below (T25.setTop (mkF m 53 #[.val (.int u0), .val (.int i)] [(.int (ltr i.toNatClampNeg)), (.int u0)])) t
            refine XS.icmpYes X25.here hx rfl (pc0 := 53) (pc' := 69) rfl (hb hby d1_53) rfl (tlt h27).1 (by decide) (by decide) ?_
            exact k
          refine OFin.go S28 ?_
          have S29 : ∀ t, Steps p.tables e below (T25.setTop (mkF m 39 #[.val (.int u0), .val (.int (i + (2 : Int32)))] [])) t → Steps p.tables e below (T25.setTop (mkF m 69 #[.val (.int u0), .val (.int i)] [])) t := by
            intro t k
            show Steps p.tables e below (T25.setTop (mkF m 69 #[.val (.int u0), .val (.int i)] [])) t
            refine XS.iinc X25.here hx rfl (hb hby d1_69) rfl (l' := #[.val (.int u0), .val (.int (i + (2 : Int32)))]) rfl ?_
            show Steps p.tables e below (T25.setTop (mkF m 72 #[.val (.int u0), .val (.int (i + (2 : Int32)))] [])) t
            refine XS.goto X25.here hx rfl (pc0 := 72) (pc' := 39) rfl (hb hby d1_72) (by decide) (by decide) ?_
            exact k
          refine OFin.go S29 ?_
          exact ih T25 _ _ _ X25 e25 Nk (by first | assumption | decide) (by first | assumption | decide) (i + (2 : Int32)) ⟨(own_step hinv.1 hinv.2.1).2.1, by rw [(own_step hinv.1 hinv.2.1).2.2]; omega, (show nl u0 (k + 1) i = nl u0 k (i + (2 : Int32)) by show (if _ then _ else _) = _; rw [if_pos h27]) ▸ hinv.2.2⟩ 
        · -- pc 53: not (u0 < (ltr i.toNatClampNeg))
          have S30 : ∀ t, Steps p.tables e below (T25.setTop (mkF m 56 #[.val (.int u0), .val (.int i)] [])) t → Steps p.tables e below (T25.setTop (mkF m 53 #[.val (.int u0), .val (.int i)] [(.int (ltr i.toNatClampNeg)), (.int u0)])) t := by
            intro t k
            show Steps p.tables e below (T25.setTop (mkF m 53 #[.val (.int u0), .val (.int i)] [(.int (ltr i.toNatClampNeg)), (.int u0)])) t
            refine XS.icmpNo X25.here hx rfl (hb hby d1_53) rfl (flt h27).1 ?_
            exact k
          refine OFin.go S30 ?_
          have S31 : ∀ t, Steps p.tables e below (T25.setTop (mkF m 57 #[.val (.int u0), .val (.int i)] [(.int u0)])) t → Steps p.tables e below (T25.setTop (mkF m 56 #[.val (.int u0), .val (.int i)] [])) t := by
            intro t k
            show Steps p.tables e below (T25.setTop (mkF m 56 #[.val (.int u0), .val (.int i)] [])) t
            refine XS.iloadN X25.here hx rfl (hb hby d1_56) rfl ?_
            exact k
          refine OFin.go S31 ?_
          obtain ⟨T32, X32, e32, st32⟩ := getS2 X25 hx hZ hown (host := "") (Or.inl (hw _ (List.mem_of_getElem? (i := 16) rfl))) Via.refl e25 SL (g := (mkF m 57 #[.val (.int u0), .val (.int i)] [(.int u0)])) rfl (hb hby d1_57)
          refine OFin.go st32 ?_
          show OFin p e below _ (T32.setTop (mkF m 60 #[.val (.int u0), .val (.int i)] [(.ref aL), (.int u0)]))
          have S33 : ∀ t, Steps p.tables e below (T32.setTop (mkF m 64 #[.val (.int u0), .val (.int i)] [(.int (ltr (i + (1 : Int32)).toNatClampNeg)), (.int u0)])) t → Steps p.tables e below (T32.setTop (mkF m 60 #[.val (.int u0), .val (.int i)] [(.ref aL), (.int u0)])) t := by
            intro t k
            show Steps p.tables e below (T32.setTop (mkF m 60 #[.val (.int u0), .val (.int i)] [(.ref aL), (.int u0)])) t
            refine XS.iloadN X32.here hx rfl (hb hby d1_60) rfl ?_
            show Steps p.tables e below (T32.setTop (mkF m 61 #[.val (.int u0), .val (.int i)] [(.int i), (.ref aL), (.int u0)])) t
            refine XS.iconst X32.here hx rfl (hb hby d1_61) ?_
            show Steps p.tables e below (T32.setTop (mkF m 62 #[.val (.int u0), .val (.int i)] [(.int (1 : Int32)), (.int i), (.ref aL), (.int u0)])) t
            refine XS.iadd X32.here hx rfl (hb hby d1_62) rfl ?_
            show Steps p.tables e below (T32.setTop (mkF m 63 #[.val (.int u0), .val (.int i)] [(.int (i + (1 : Int32))), (.ref aL), (.int u0)])) t
            refine rdI X32 hx hZ e32 VL (i := (i + (1 : Int32)).toNatClampNeg) (own_step hinv.1 hinv.2.1).1.1 rfl (by rw [(own_step hinv.1 hinv.2.1).1.2]; omega) (x := (.int (ltr (i + (1 : Int32)).toNatClampNeg))) rfl (g := (mkF m 63 #[.val (.int u0), .val (.int i)] [(.int (i + (1 : Int32))), (.ref aL), (.int u0)])) rfl rfl (hb hby d1_63) ?_
            exact k
          refine OFin.go S33 ?_
          by_cases h34 : ((ltr (i + (1 : Int32)).toNatClampNeg) < u0)
          · -- pc 64: ((ltr (i + (1 : Int32)).toNatClampNeg) < u0)
            have S35 : ∀ t, Steps p.tables e below (T32.setTop (mkF m 69 #[.val (.int u0), .val (.int i)] [])) t → Steps p.tables e below (T32.setTop (mkF m 64 #[.val (.int u0), .val (.int i)] [(.int (ltr (i + (1 : Int32)).toNatClampNeg)), (.int u0)])) t := by
              intro t k
              show Steps p.tables e below (T32.setTop (mkF m 64 #[.val (.int u0), .val (.int i)] [(.int (ltr (i + (1 : Int32)).toNatClampNeg)), (.int u0)])) t
              refine XS.icmpYes X32.here hx rfl (pc0 := 64) (pc' := 69) rfl (hb hby d1_64) rfl (tlt h34).2.2.1 (by decide) (by decide) ?_
              exact k
            refine OFin.go S35 ?_
            have S36 : ∀ t, Steps p.tables e below (T32.setTop (mkF m 39 #[.val (.int u0), .val (.int (i + (2 : Int32)))] [])) t → Steps p.tables e below (T32.setTop (mkF m 69 #[.val (.int u0), .val (.int i)] [])) t := by
              intro t k
              show Steps p.tables e below (T32.setTop (mkF m 69 #[.val (.int u0), .val (.int i)] [])) t
              refine XS.iinc X32.here hx rfl (hb hby d1_69) rfl (l' := #[.val (.int u0), .val (.int (i + (2 : Int32)))]) rfl ?_
              show Steps p.tables e below (T32.setTop (mkF m 72 #[.val (.int u0), .val (.int (i + (2 : Int32)))] [])) t
              refine XS.goto X32.here hx rfl (pc0 := 72) (pc' := 39) rfl (hb hby d1_72) (by decide) (by decide) ?_
              exact k
            refine OFin.go S36 ?_
            exact ih T32 _ _ _ X32 e32 Nk (by first | assumption | decide) (by first | assumption | decide) (i + (2 : Int32)) ⟨(own_step hinv.1 hinv.2.1).2.1, by rw [(own_step hinv.1 hinv.2.1).2.2]; omega, (show nl u0 (k + 1) i = nl u0 k (i + (2 : Int32)) by show (if _ then _ else _) = _; rw [if_neg h27, if_pos h34]) ▸ hinv.2.2⟩ 
          · -- pc 64: not ((ltr (i + (1 : Int32)).toNatClampNeg) < u0)
            have S37 : ∀ t, Steps p.tables e below (T32.setTop (mkF m 67 #[.val (.int u0), .val (.int i)] [])) t → Steps p.tables e below (T32.setTop (mkF m 64 #[.val (.int u0), .val (.int i)] [(.int (ltr (i + (1 : Int32)).toNatClampNeg)), (.int u0)])) t := by
              intro t k
              show Steps p.tables e below (T32.setTop (mkF m 64 #[.val (.int u0), .val (.int i)] [(.int (ltr (i + (1 : Int32)).toNatClampNeg)), (.int u0)])) t
              refine XS.icmpNo X32.here hx rfl (hb hby d1_64) rfl (flt h34).2.2.1 ?_
              exact k
            refine OFin.go S37 ?_
            have S38 : ∀ t, Steps p.tables e below (T32.setTop (mkF m 68 #[.val (.int u0), .val (.int i)] [(.int (1 : Int32))])) t → Steps p.tables e below (T32.setTop (mkF m 67 #[.val (.int u0), .val (.int i)] [])) t := by
              intro t k
              show Steps p.tables e below (T32.setTop (mkF m 67 #[.val (.int u0), .val (.int i)] [])) t
              refine XS.iconst X32.here hx rfl (hb hby d1_67) ?_
              exact k
            refine OFin.go S38 ?_
            exact finZ X32 hx Bd.notSynchronized (t := .boolean) Bd.returns (by simp) (hb hby d1_68) rfl hce hsl (⟨congrArg (fun z => some (Value.int z)) (show (1 : Int32) = fNL u0 from ((show nl u0 (k + 1) i = 1 by show (if _ then _ else _) = _; rw [if_neg h27, if_neg h34]).symm.trans hinv.2.2).trans (if_neg h2).symm), Nk, e32⟩)
    exact LOOP14 12 _ _ _ _ X0 e0 N0 (by decide) (by decide) (0 : Int32) ⟨by decide, by decide, rfl⟩
theorem ite_bi {A Q : Prop} [Decidable A] [Decidable Q] : (if A then (1 : Int32) else bi Q) = bi (A ∨ Q) := by
  unfold bi; by_cases h : A <;> by_cases k : Q <;> simp [h, k]
theorem nl_s (c : Int32) (k : Nat) (i : Int32) : nl c (k + 1) i = if (¬ (c < ltr i.toNatClampNeg) ∧ ¬ (ltr (i + (1 : Int32)).toNatClampNeg < c)) then 1 else nl c k (i + (2 : Int32)) := by
  show (if _ then _ else if _ then _ else _) = _
  by_cases h : c < ltr i.toNatClampNeg <;> by_cases k : ltr (i + (1 : Int32)).toNatClampNeg < c <;> simp [h, k]
theorem nl_0 (c i : Int32) : nl c 0 i = bi False := rfl
theorem own_same (c : Int32) : fNL c = fRef c := by
  unfold fNL fRef
  by_cases h : c < 128
  · rw [if_pos h]
    unfold fAsc
    rw [bi_iff]
    simp only [Int32.lt_iff_toInt_lt, Int32.reduceToInt] at h ⊢
    omega
  · rw [if_neg h]
    simp only [nl_s, nl_0, ltr, Int32.reduceToNatClampNeg, Int32.reduceAdd, ite_bi, or_false]
    rw [bi_iff]
    simp only [Int32.lt_iff_toInt_lt, Int32.reduceToInt] at h ⊢
    omega
theorem own_idx {n z : Int32} (h : z = ((n &&& (255 : Int32)) % (28 : Int32))) : ¬ z < 0 ∧ z.toNatClampNeg < 28 := by
  have h1 := (c_iremV (n &&& 255) 28).1 (c_and n 255 (by decide)).1 (by decide)
  have h3 := h1.1; have h4 := h1.2.1
  rw [← h] at h3 h4
  simp only [Int32.reduceToInt] at h4
  have h0 : ¬ z < 0 := by rw [Int32.lt_iff_toInt_lt]; simp only [Int32.reduceToInt]; omega
  have := nat_of h0
  exact ⟨h0, by omega⟩
theorem upd_int {f : Nat → Value} {j : Nat} {v : Int32} (h : ∀ i, ∃ z, f i = .int z) : ∀ i, ∃ z, upd f j (.int v) i = .int z := fun i => by
  unfold upd; split
  · exact ⟨_, rfl⟩
  · exact h i
theorem ef_rm0 (m : MethodId) (u0 : Int32) (u1 : Int32) : entryFrame m #[(.int u0), (.int u1)] maxLocals = mkF m 0 #[.val (.int u0), .val (.int u1), .unset, .unset, .unset, .unset, .unset, .unset] [] := by first | (simp [entryFrame, mkF, argsToLocals, Value.category, maxLocals]; done) | rfl
def Q_rm0 (Z : State) (u0 : Int32) (u1 : Int32) (aL : Addr) (h0 : Heap) (n0 : Nat) (v : Option Value) (h : Heap) (L : List Loc) : Prop := v = some (.int (1 : Int32)) ∧ Fr n0 L
theorem pd_0 : parseMethodDescriptor "(I)Z" = some ⟨[.int], some .boolean⟩ := by decide +kernel
set_option maxRecDepth 65536 in
set_option maxHeartbeats 40000000 in
theorem rm0 (l : Launch) (Z : State) (a0 : Array Value) (hw : ∀ d ∈ tables_1, d.before a0 Z = true) (ws : List Jvm.Cond) (u0 : Int32) (u1 : Int32) (aL : Addr) (h0 : Heap) (n0 : Nat) (Z0 : n0 ≤ h0.size) (SL : Sta Z h0 "com/example/godwit/godwit/model/QualifiedName" "LETTERS" "[I" (.ref aL)) (VL : Ara Z h0 aL .int 24 (fun i => .int (ltr i))) :
    MetFree l x (head1 (Jvm.Cond.code x code maxLocals ret :: ws) room_1) (fun a U => a = #[(.int u0), (.int u1)] ∧ Z.Warmed39 U.vm ∧ U.heap = h0) (fun _ _ _ _ _ => True) (fun _ U o U' => ∃ v L, o = .returned v ∧ (Q_rm0 Z u0 u1 aL h0 n0) v U'.heap L ∧ FrameEnd U o U' L 16 128) := by
  refine MetFree.of_bodySF (plainFor_of_name pn_0) hisR ?_
  intro p e s m args below meth c s₁ Bd hml0 hP hK
  obtain ⟨rfl, hZ, hh⟩ := hP
  have hx := Bd.exec
  have hby := Bd.bytes
  have hml : c.maxLocals = 8 := hml0
  have hown : s.vm.findClass "com/example/godwit/godwit/model/QualifiedNameIsNameLetterPinLaw" = some m.cls := findClass_of_methodNamed Bd.named
  have hnm := (name_of_methodNamed Bd.named Bd.method).1
  have X0 : Stand p l e room_1 s m #[(.int u0), (.int u1)] below meth c s₁ [] 0 0 := Stand.of_body Bd
  have e0 : s₁.heap = h0 := by rw [← hh, Bd.state]; rfl
  have N0 := Fr.nil n0
  show OFin p e below (ORet (Q_rm0 Z u0 u1 aL h0 n0) s 16 128) (s₁.setTop (entryFrame m #[(.int u0), (.int u1)] maxLocals))
  refine OFin.go (fun t k => castTop (ef_rm0 m u0 u1) k) ?_
  show OFin p e below (ORet (Q_rm0 Z u0 u1 aL h0 n0) s 16 128) (s₁.setTop (mkF m 0 #[.val (.int u0), .val (.int u1), .unset, .unset, .unset, .unset, .unset, .unset] []))
  have S1 : ∀ t, Steps p.tables e below (s₁.setTop (mkF m 2 #[.val (.int u0), .val (.int u1), .unset, .unset, .unset, .unset, .unset, .unset] [(.int (28 : Int32))])) t → Steps p.tables e below (s₁.setTop (mkF m 0 #[.val (.int u0), .val (.int u1), .unset, .unset, .unset, .unset, .unset, .unset] [])) t := by
    intro t k
    show Steps p.tables e below (s₁.setTop (mkF m 0 #[.val (.int u0), .val (.int u1), .unset, .unset, .unset, .unset, .unset, .unset] [])) t
    refine XS.bipush X0.here hx rfl (hb hby at_0) ?_
    exact k
  refine OFin.go S1 ?_
  obtain ⟨T2, h2, k2, X2, e2, E2, A2, st2⟩ := newP X0 hx hZ (hw _ (List.mem_of_getElem? (i := 0) rfl)) e0 (g := (mkF m 2 #[.val (.int u0), .val (.int u1), .unset, .unset, .unset, .unset, .unset, .unset] [(.int (28 : Int32))])) rfl (hb hby at_2) rfl (by decide) (cap := 28) (by decide) (by decide) (Nat.le_of_ble_eq_true rfl) (Nat.le_of_ble_eq_true rfl)
  obtain ⟨b2, g2⟩ : ∃ z, z = h0.size := ⟨_, rfl⟩
  rw [← g2] at A2 st2
  have q3 : aL ≠ b2 := up_lt VL.lt g2
  have ge2 : n0 ≤ b2 := Nat.le_trans Z0 (Nat.le_of_eq g2.symm)
  have Z2 : n0 ≤ h2.size := Nat.le_trans Z0 E2.1
  have V2 : Ara Z h2 b2 .int 28 (fun _ => defaultValue .int) := Ara.new A2 rfl
  refine OFin.go st2 ?_
  show OFin p e below _ (T2.setTop (mkF m 4 #[.val (.int u0), .val (.int u1), .unset, .unset, .unset, .unset, .unset, .unset] [(.ref b2)]))
  have S4 : ∀ t, Steps p.tables e below (T2.setTop (mkF m 8 #[.val (.int u0), .val (.int u1), .unset, .unset, .unset, .unset, .unset, .unset] [(.int (97 : Int32)), (.int (0 : Int32)), (.ref b2), (.ref b2)])) t → Steps p.tables e below (T2.setTop (mkF m 4 #[.val (.int u0), .val (.int u1), .unset, .unset, .unset, .unset, .unset, .unset] [(.ref b2)])) t := by
    intro t k
    show Steps p.tables e below (T2.setTop (mkF m 4 #[.val (.int u0), .val (.int u1), .unset, .unset, .unset, .unset, .unset, .unset] [(.ref b2)])) t
    refine XS.dup X2.here hx rfl (hb hby at_4) rfl rfl ?_
    show Steps p.tables e below (T2.setTop (mkF m 5 #[.val (.int u0), .val (.int u1), .unset, .unset, .unset, .unset, .unset, .unset] [(.ref b2), (.ref b2)])) t
    refine XS.iconst X2.here hx rfl (hb hby at_5) ?_
    show Steps p.tables e below (T2.setTop (mkF m 6 #[.val (.int u0), .val (.int u1), .unset, .unset, .unset, .unset, .unset, .unset] [(.int (0 : Int32)), (.ref b2), (.ref b2)])) t
    refine XS.bipush X2.here hx rfl (hb hby at_6) ?_
    exact k
  refine OFin.go S4 ?_
  obtain ⟨T5, h5, X5, e5, W5, st5⟩ := wrI X2 hx hZ e2 V2 (i := 0) (by decide) rfl (by decide) (g := (mkF m 8 #[.val (.int u0), .val (.int u1), .unset, .unset, .unset, .unset, .unset, .unset] [(.int (97 : Int32)), (.int (0 : Int32)), (.ref b2), (.ref b2)])) rfl rfl (hb hby at_8)
  have V5 := V2.set W5
  have N5 := Fr.snoc X5 N0 ge2
  have Z5 : n0 ≤ h5.size := Nat.le_trans Z2 (wr_le W5)
  refine OFin.go st5 ?_
  show OFin p e below _ (T5.setTop (mkF m 9 #[.val (.int u0), .val (.int u1), .unset, .unset, .unset, .unset, .unset, .unset] [(.ref b2)]))
  have S6 : ∀ t, Steps p.tables e below (T5.setTop (mkF m 13 #[.val (.int u0), .val (.int u1), .unset, .unset, .unset, .unset, .unset, .unset] [(.int (122 : Int32)), (.int (1 : Int32)), (.ref b2), (.ref b2)])) t → Steps p.tables e below (T5.setTop (mkF m 9 #[.val (.int u0), .val (.int u1), .unset, .unset, .unset, .unset, .unset, .unset] [(.ref b2)])) t := by
    intro t k
    show Steps p.tables e below (T5.setTop (mkF m 9 #[.val (.int u0), .val (.int u1), .unset, .unset, .unset, .unset, .unset, .unset] [(.ref b2)])) t
    refine XS.dup X5.here hx rfl (hb hby at_9) rfl rfl ?_
    show Steps p.tables e below (T5.setTop (mkF m 10 #[.val (.int u0), .val (.int u1), .unset, .unset, .unset, .unset, .unset, .unset] [(.ref b2), (.ref b2)])) t
    refine XS.iconst X5.here hx rfl (hb hby at_10) ?_
    show Steps p.tables e below (T5.setTop (mkF m 11 #[.val (.int u0), .val (.int u1), .unset, .unset, .unset, .unset, .unset, .unset] [(.int (1 : Int32)), (.ref b2), (.ref b2)])) t
    refine XS.bipush X5.here hx rfl (hb hby at_11) ?_
    exact k
  refine OFin.go S6 ?_
  obtain ⟨T7, h7, X7, e7, W7, st7⟩ := wrI X5 hx hZ e5 V5 (i := 1) (by decide) rfl (by decide) (g := (mkF m 13 #[.val (.int u0), .val (.int u1), .unset, .unset, .unset, .unset, .unset, .unset] [(.int (122 : Int32)), (.int (1 : Int32)), (.ref b2), (.ref b2)])) rfl rfl (hb hby at_13)
  have V7 := V5.set W7
  have N7 := Fr.snoc X7 N5 ge2
  have Z7 : n0 ≤ h7.size := Nat.le_trans Z5 (wr_le W7)
  refine OFin.go st7 ?_
  show OFin p e below _ (T7.setTop (mkF m 14 #[.val (.int u0), .val (.int u1), .unset, .unset, .unset, .unset, .unset, .unset] [(.ref b2)]))
  have S8 : ∀ t, Steps p.tables e below (T7.setTop (mkF m 18 #[.val (.int u0), .val (.int u1), .unset, .unset, .unset, .unset, .unset, .unset] [(.int (65 : Int32)), (.int (2 : Int32)), (.ref b2), (.ref b2)])) t → Steps p.tables e below (T7.setTop (mkF m 14 #[.val (.int u0), .val (.int u1), .unset, .unset, .unset, .unset, .unset, .unset] [(.ref b2)])) t := by
    intro t k
    show Steps p.tables e below (T7.setTop (mkF m 14 #[.val (.int u0), .val (.int u1), .unset, .unset, .unset, .unset, .unset, .unset] [(.ref b2)])) t
    refine XS.dup X7.here hx rfl (hb hby at_14) rfl rfl ?_
    show Steps p.tables e below (T7.setTop (mkF m 15 #[.val (.int u0), .val (.int u1), .unset, .unset, .unset, .unset, .unset, .unset] [(.ref b2), (.ref b2)])) t
    refine XS.iconst X7.here hx rfl (hb hby at_15) ?_
    show Steps p.tables e below (T7.setTop (mkF m 16 #[.val (.int u0), .val (.int u1), .unset, .unset, .unset, .unset, .unset, .unset] [(.int (2 : Int32)), (.ref b2), (.ref b2)])) t
    refine XS.bipush X7.here hx rfl (hb hby at_16) ?_
    exact k
  refine OFin.go S8 ?_
  obtain ⟨T9, h9, X9, e9, W9, st9⟩ := wrI X7 hx hZ e7 V7 (i := 2) (by decide) rfl (by decide) (g := (mkF m 18 #[.val (.int u0), .val (.int u1), .unset, .unset, .unset, .unset, .unset, .unset] [(.int (65 : Int32)), (.int (2 : Int32)), (.ref b2), (.ref b2)])) rfl rfl (hb hby at_18)
  have V9 := V7.set W9
  have N9 := Fr.snoc X9 N7 ge2
  have Z9 : n0 ≤ h9.size := Nat.le_trans Z7 (wr_le W9)
  refine OFin.go st9 ?_
  show OFin p e below _ (T9.setTop (mkF m 19 #[.val (.int u0), .val (.int u1), .unset, .unset, .unset, .unset, .unset, .unset] [(.ref b2)]))
  have S10 : ∀ t, Steps p.tables e below (T9.setTop (mkF m 23 #[.val (.int u0), .val (.int u1), .unset, .unset, .unset, .unset, .unset, .unset] [(.int (90 : Int32)), (.int (3 : Int32)), (.ref b2), (.ref b2)])) t → Steps p.tables e below (T9.setTop (mkF m 19 #[.val (.int u0), .val (.int u1), .unset, .unset, .unset, .unset, .unset, .unset] [(.ref b2)])) t := by
    intro t k
    show Steps p.tables e below (T9.setTop (mkF m 19 #[.val (.int u0), .val (.int u1), .unset, .unset, .unset, .unset, .unset, .unset] [(.ref b2)])) t
    refine XS.dup X9.here hx rfl (hb hby at_19) rfl rfl ?_
    show Steps p.tables e below (T9.setTop (mkF m 20 #[.val (.int u0), .val (.int u1), .unset, .unset, .unset, .unset, .unset, .unset] [(.ref b2), (.ref b2)])) t
    refine XS.iconst X9.here hx rfl (hb hby at_20) ?_
    show Steps p.tables e below (T9.setTop (mkF m 21 #[.val (.int u0), .val (.int u1), .unset, .unset, .unset, .unset, .unset, .unset] [(.int (3 : Int32)), (.ref b2), (.ref b2)])) t
    refine XS.bipush X9.here hx rfl (hb hby at_21) ?_
    exact k
  refine OFin.go S10 ?_
  obtain ⟨T11, h11, X11, e11, W11, st11⟩ := wrI X9 hx hZ e9 V9 (i := 3) (by decide) rfl (by decide) (g := (mkF m 23 #[.val (.int u0), .val (.int u1), .unset, .unset, .unset, .unset, .unset, .unset] [(.int (90 : Int32)), (.int (3 : Int32)), (.ref b2), (.ref b2)])) rfl rfl (hb hby at_23)
  have V11 := V9.set W11
  have N11 := Fr.snoc X11 N9 ge2
  have Z11 : n0 ≤ h11.size := Nat.le_trans Z9 (wr_le W11)
  refine OFin.go st11 ?_
  show OFin p e below _ (T11.setTop (mkF m 24 #[.val (.int u0), .val (.int u1), .unset, .unset, .unset, .unset, .unset, .unset] [(.ref b2)]))
  have S12 : ∀ t, Steps p.tables e below (T11.setTop (mkF m 29 #[.val (.int u0), .val (.int u1), .unset, .unset, .unset, .unset, .unset, .unset] [(.int (192 : Int32)), (.int (4 : Int32)), (.ref b2), (.ref b2)])) t → Steps p.tables e below (T11.setTop (mkF m 24 #[.val (.int u0), .val (.int u1), .unset, .unset, .unset, .unset, .unset, .unset] [(.ref b2)])) t := by
    intro t k
    show Steps p.tables e below (T11.setTop (mkF m 24 #[.val (.int u0), .val (.int u1), .unset, .unset, .unset, .unset, .unset, .unset] [(.ref b2)])) t
    refine XS.dup X11.here hx rfl (hb hby at_24) rfl rfl ?_
    show Steps p.tables e below (T11.setTop (mkF m 25 #[.val (.int u0), .val (.int u1), .unset, .unset, .unset, .unset, .unset, .unset] [(.ref b2), (.ref b2)])) t
    refine XS.iconst X11.here hx rfl (hb hby at_25) ?_
    show Steps p.tables e below (T11.setTop (mkF m 26 #[.val (.int u0), .val (.int u1), .unset, .unset, .unset, .unset, .unset, .unset] [(.int (4 : Int32)), (.ref b2), (.ref b2)])) t
    refine XS.sipush X11.here hx rfl (hb hby at_26) ?_
    exact k
  refine OFin.go S12 ?_
  obtain ⟨T13, h13, X13, e13, W13, st13⟩ := wrI X11 hx hZ e11 V11 (i := 4) (by decide) rfl (by decide) (g := (mkF m 29 #[.val (.int u0), .val (.int u1), .unset, .unset, .unset, .unset, .unset, .unset] [(.int (192 : Int32)), (.int (4 : Int32)), (.ref b2), (.ref b2)])) rfl rfl (hb hby at_29)
  have V13 := V11.set W13
  have N13 := Fr.snoc X13 N11 ge2
  have Z13 : n0 ≤ h13.size := Nat.le_trans Z11 (wr_le W13)
  refine OFin.go st13 ?_
  show OFin p e below _ (T13.setTop (mkF m 30 #[.val (.int u0), .val (.int u1), .unset, .unset, .unset, .unset, .unset, .unset] [(.ref b2)]))
  have S14 : ∀ t, Steps p.tables e below (T13.setTop (mkF m 35 #[.val (.int u0), .val (.int u1), .unset, .unset, .unset, .unset, .unset, .unset] [(.int (214 : Int32)), (.int (5 : Int32)), (.ref b2), (.ref b2)])) t → Steps p.tables e below (T13.setTop (mkF m 30 #[.val (.int u0), .val (.int u1), .unset, .unset, .unset, .unset, .unset, .unset] [(.ref b2)])) t := by
    intro t k
    show Steps p.tables e below (T13.setTop (mkF m 30 #[.val (.int u0), .val (.int u1), .unset, .unset, .unset, .unset, .unset, .unset] [(.ref b2)])) t
    refine XS.dup X13.here hx rfl (hb hby at_30) rfl rfl ?_
    show Steps p.tables e below (T13.setTop (mkF m 31 #[.val (.int u0), .val (.int u1), .unset, .unset, .unset, .unset, .unset, .unset] [(.ref b2), (.ref b2)])) t
    refine XS.iconst X13.here hx rfl (hb hby at_31) ?_
    show Steps p.tables e below (T13.setTop (mkF m 32 #[.val (.int u0), .val (.int u1), .unset, .unset, .unset, .unset, .unset, .unset] [(.int (5 : Int32)), (.ref b2), (.ref b2)])) t
    refine XS.sipush X13.here hx rfl (hb hby at_32) ?_
    exact k
  refine OFin.go S14 ?_
  obtain ⟨T15, h15, X15, e15, W15, st15⟩ := wrI X13 hx hZ e13 V13 (i := 5) (by decide) rfl (by decide) (g := (mkF m 35 #[.val (.int u0), .val (.int u1), .unset, .unset, .unset, .unset, .unset, .unset] [(.int (214 : Int32)), (.int (5 : Int32)), (.ref b2), (.ref b2)])) rfl rfl (hb hby at_35)
  have V15 := V13.set W15
  have N15 := Fr.snoc X15 N13 ge2
  have Z15 : n0 ≤ h15.size := Nat.le_trans Z13 (wr_le W15)
  refine OFin.go st15 ?_
  show OFin p e below _ (T15.setTop (mkF m 36 #[.val (.int u0), .val (.int u1), .unset, .unset, .unset, .unset, .unset, .unset] [(.ref b2)]))
  have S16 : ∀ t, Steps p.tables e below (T15.setTop (mkF m 42 #[.val (.int u0), .val (.int u1), .unset, .unset, .unset, .unset, .unset, .unset] [(.int (216 : Int32)), (.int (6 : Int32)), (.ref b2), (.ref b2)])) t → Steps p.tables e below (T15.setTop (mkF m 36 #[.val (.int u0), .val (.int u1), .unset, .unset, .unset, .unset, .unset, .unset] [(.ref b2)])) t := by
    intro t k
    show Steps p.tables e below (T15.setTop (mkF m 36 #[.val (.int u0), .val (.int u1), .unset, .unset, .unset, .unset, .unset, .unset] [(.ref b2)])) t
    refine XS.dup X15.here hx rfl (hb hby at_36) rfl rfl ?_
    show Steps p.tables e below (T15.setTop (mkF m 37 #[.val (.int u0), .val (.int u1), .unset, .unset, .unset, .unset, .unset, .unset] [(.ref b2), (.ref b2)])) t
    refine XS.bipush X15.here hx rfl (hb hby at_37) ?_
    show Steps p.tables e below (T15.setTop (mkF m 39 #[.val (.int u0), .val (.int u1), .unset, .unset, .unset, .unset, .unset, .unset] [(.int (6 : Int32)), (.ref b2), (.ref b2)])) t
    refine XS.sipush X15.here hx rfl (hb hby at_39) ?_
    exact k
  refine OFin.go S16 ?_
  obtain ⟨T17, h17, X17, e17, W17, st17⟩ := wrI X15 hx hZ e15 V15 (i := 6) (by decide) rfl (by decide) (g := (mkF m 42 #[.val (.int u0), .val (.int u1), .unset, .unset, .unset, .unset, .unset, .unset] [(.int (216 : Int32)), (.int (6 : Int32)), (.ref b2), (.ref b2)])) rfl rfl (hb hby at_42)
  have V17 := V15.set W17
  have N17 := Fr.snoc X17 N15 ge2
  have Z17 : n0 ≤ h17.size := Nat.le_trans Z15 (wr_le W17)
  refine OFin.go st17 ?_
  show OFin p e below _ (T17.setTop (mkF m 43 #[.val (.int u0), .val (.int u1), .unset, .unset, .unset, .unset, .unset, .unset] [(.ref b2)]))
  have S18 : ∀ t, Steps p.tables e below (T17.setTop (mkF m 49 #[.val (.int u0), .val (.int u1), .unset, .unset, .unset, .unset, .unset, .unset] [(.int (246 : Int32)), (.int (7 : Int32)), (.ref b2), (.ref b2)])) t → Steps p.tables e below (T17.setTop (mkF m 43 #[.val (.int u0), .val (.int u1), .unset, .unset, .unset, .unset, .unset, .unset] [(.ref b2)])) t := by
    intro t k
    show Steps p.tables e below (T17.setTop (mkF m 43 #[.val (.int u0), .val (.int u1), .unset, .unset, .unset, .unset, .unset, .unset] [(.ref b2)])) t
    refine XS.dup X17.here hx rfl (hb hby at_43) rfl rfl ?_
    show Steps p.tables e below (T17.setTop (mkF m 44 #[.val (.int u0), .val (.int u1), .unset, .unset, .unset, .unset, .unset, .unset] [(.ref b2), (.ref b2)])) t
    refine XS.bipush X17.here hx rfl (hb hby at_44) ?_
    show Steps p.tables e below (T17.setTop (mkF m 46 #[.val (.int u0), .val (.int u1), .unset, .unset, .unset, .unset, .unset, .unset] [(.int (7 : Int32)), (.ref b2), (.ref b2)])) t
    refine XS.sipush X17.here hx rfl (hb hby at_46) ?_
    exact k
  refine OFin.go S18 ?_
  obtain ⟨T19, h19, X19, e19, W19, st19⟩ := wrI X17 hx hZ e17 V17 (i := 7) (by decide) rfl (by decide) (g := (mkF m 49 #[.val (.int u0), .val (.int u1), .unset, .unset, .unset, .unset, .unset, .unset] [(.int (246 : Int32)), (.int (7 : Int32)), (.ref b2), (.ref b2)])) rfl rfl (hb hby at_49)
  have V19 := V17.set W19
  have N19 := Fr.snoc X19 N17 ge2
  have Z19 : n0 ≤ h19.size := Nat.le_trans Z17 (wr_le W19)
  refine OFin.go st19 ?_
  show OFin p e below _ (T19.setTop (mkF m 50 #[.val (.int u0), .val (.int u1), .unset, .unset, .unset, .unset, .unset, .unset] [(.ref b2)]))
  have S20 : ∀ t, Steps p.tables e below (T19.setTop (mkF m 56 #[.val (.int u0), .val (.int u1), .unset, .unset, .unset, .unset, .unset, .unset] [(.int (248 : Int32)), (.int (8 : Int32)), (.ref b2), (.ref b2)])) t → Steps p.tables e below (T19.setTop (mkF m 50 #[.val (.int u0), .val (.int u1), .unset, .unset, .unset, .unset, .unset, .unset] [(.ref b2)])) t := by
    intro t k
    show Steps p.tables e below (T19.setTop (mkF m 50 #[.val (.int u0), .val (.int u1), .unset, .unset, .unset, .unset, .unset, .unset] [(.ref b2)])) t
    refine XS.dup X19.here hx rfl (hb hby at_50) rfl rfl ?_
    show Steps p.tables e below (T19.setTop (mkF m 51 #[.val (.int u0), .val (.int u1), .unset, .unset, .unset, .unset, .unset, .unset] [(.ref b2), (.ref b2)])) t
    refine XS.bipush X19.here hx rfl (hb hby at_51) ?_
    show Steps p.tables e below (T19.setTop (mkF m 53 #[.val (.int u0), .val (.int u1), .unset, .unset, .unset, .unset, .unset, .unset] [(.int (8 : Int32)), (.ref b2), (.ref b2)])) t
    refine XS.sipush X19.here hx rfl (hb hby at_53) ?_
    exact k
  refine OFin.go S20 ?_
  obtain ⟨T21, h21, X21, e21, W21, st21⟩ := wrI X19 hx hZ e19 V19 (i := 8) (by decide) rfl (by decide) (g := (mkF m 56 #[.val (.int u0), .val (.int u1), .unset, .unset, .unset, .unset, .unset, .unset] [(.int (248 : Int32)), (.int (8 : Int32)), (.ref b2), (.ref b2)])) rfl rfl (hb hby at_56)
  have V21 := V19.set W21
  have N21 := Fr.snoc X21 N19 ge2
  have Z21 : n0 ≤ h21.size := Nat.le_trans Z19 (wr_le W21)
  refine OFin.go st21 ?_
  show OFin p e below _ (T21.setTop (mkF m 57 #[.val (.int u0), .val (.int u1), .unset, .unset, .unset, .unset, .unset, .unset] [(.ref b2)]))
  have S22 : ∀ t, Steps p.tables e below (T21.setTop (mkF m 63 #[.val (.int u0), .val (.int u1), .unset, .unset, .unset, .unset, .unset, .unset] [(.int (767 : Int32)), (.int (9 : Int32)), (.ref b2), (.ref b2)])) t → Steps p.tables e below (T21.setTop (mkF m 57 #[.val (.int u0), .val (.int u1), .unset, .unset, .unset, .unset, .unset, .unset] [(.ref b2)])) t := by
    intro t k
    show Steps p.tables e below (T21.setTop (mkF m 57 #[.val (.int u0), .val (.int u1), .unset, .unset, .unset, .unset, .unset, .unset] [(.ref b2)])) t
    refine XS.dup X21.here hx rfl (hb hby at_57) rfl rfl ?_
    show Steps p.tables e below (T21.setTop (mkF m 58 #[.val (.int u0), .val (.int u1), .unset, .unset, .unset, .unset, .unset, .unset] [(.ref b2), (.ref b2)])) t
    refine XS.bipush X21.here hx rfl (hb hby at_58) ?_
    show Steps p.tables e below (T21.setTop (mkF m 60 #[.val (.int u0), .val (.int u1), .unset, .unset, .unset, .unset, .unset, .unset] [(.int (9 : Int32)), (.ref b2), (.ref b2)])) t
    refine XS.sipush X21.here hx rfl (hb hby at_60) ?_
    exact k
  refine OFin.go S22 ?_
  obtain ⟨T23, h23, X23, e23, W23, st23⟩ := wrI X21 hx hZ e21 V21 (i := 9) (by decide) rfl (by decide) (g := (mkF m 63 #[.val (.int u0), .val (.int u1), .unset, .unset, .unset, .unset, .unset, .unset] [(.int (767 : Int32)), (.int (9 : Int32)), (.ref b2), (.ref b2)])) rfl rfl (hb hby at_63)
  have V23 := V21.set W23
  have N23 := Fr.snoc X23 N21 ge2
  have Z23 : n0 ≤ h23.size := Nat.le_trans Z21 (wr_le W23)
  refine OFin.go st23 ?_
  show OFin p e below _ (T23.setTop (mkF m 64 #[.val (.int u0), .val (.int u1), .unset, .unset, .unset, .unset, .unset, .unset] [(.ref b2)]))
  have S24 : ∀ t, Steps p.tables e below (T23.setTop (mkF m 70 #[.val (.int u0), .val (.int u1), .unset, .unset, .unset, .unset, .unset, .unset] [(.int (880 : Int32)), (.int (10 : Int32)), (.ref b2), (.ref b2)])) t → Steps p.tables e below (T23.setTop (mkF m 64 #[.val (.int u0), .val (.int u1), .unset, .unset, .unset, .unset, .unset, .unset] [(.ref b2)])) t := by
    intro t k
    show Steps p.tables e below (T23.setTop (mkF m 64 #[.val (.int u0), .val (.int u1), .unset, .unset, .unset, .unset, .unset, .unset] [(.ref b2)])) t
    refine XS.dup X23.here hx rfl (hb hby at_64) rfl rfl ?_
    show Steps p.tables e below (T23.setTop (mkF m 65 #[.val (.int u0), .val (.int u1), .unset, .unset, .unset, .unset, .unset, .unset] [(.ref b2), (.ref b2)])) t
    refine XS.bipush X23.here hx rfl (hb hby at_65) ?_
    show Steps p.tables e below (T23.setTop (mkF m 67 #[.val (.int u0), .val (.int u1), .unset, .unset, .unset, .unset, .unset, .unset] [(.int (10 : Int32)), (.ref b2), (.ref b2)])) t
    refine XS.sipush X23.here hx rfl (hb hby at_67) ?_
    exact k
  refine OFin.go S24 ?_
  obtain ⟨T25, h25, X25, e25, W25, st25⟩ := wrI X23 hx hZ e23 V23 (i := 10) (by decide) rfl (by decide) (g := (mkF m 70 #[.val (.int u0), .val (.int u1), .unset, .unset, .unset, .unset, .unset, .unset] [(.int (880 : Int32)), (.int (10 : Int32)), (.ref b2), (.ref b2)])) rfl rfl (hb hby at_70)
  have V25 := V23.set W25
  have N25 := Fr.snoc X25 N23 ge2
  have Z25 : n0 ≤ h25.size := Nat.le_trans Z23 (wr_le W25)
  refine OFin.go st25 ?_
  show OFin p e below _ (T25.setTop (mkF m 71 #[.val (.int u0), .val (.int u1), .unset, .unset, .unset, .unset, .unset, .unset] [(.ref b2)]))
  have S26 : ∀ t, Steps p.tables e below (T25.setTop (mkF m 77 #[.val (.int u0), .val (.int u1), .unset, .unset, .unset, .unset, .unset, .unset] [(.int (893 : Int32)), (.int (11 : Int32)), (.ref b2), (.ref b2)])) t → Steps p.tables e below (T25.setTop (mkF m 71 #[.val (.int u0), .val (.int u1), .unset, .unset, .unset, .unset, .unset, .unset] [(.ref b2)])) t := by
    intro t k
    show Steps p.tables e below (T25.setTop (mkF m 71 #[.val (.int u0), .val (.int u1), .unset, .unset, .unset, .unset, .unset, .unset] [(.ref b2)])) t
    refine XS.dup X25.here hx rfl (hb hby at_71) rfl rfl ?_
    show Steps p.tables e below (T25.setTop (mkF m 72 #[.val (.int u0), .val (.int u1), .unset, .unset, .unset, .unset, .unset, .unset] [(.ref b2), (.ref b2)])) t
    refine XS.bipush X25.here hx rfl (hb hby at_72) ?_
    show Steps p.tables e below (T25.setTop (mkF m 74 #[.val (.int u0), .val (.int u1), .unset, .unset, .unset, .unset, .unset, .unset] [(.int (11 : Int32)), (.ref b2), (.ref b2)])) t
    refine XS.sipush X25.here hx rfl (hb hby at_74) ?_
    exact k
  refine OFin.go S26 ?_
  obtain ⟨T27, h27, X27, e27, W27, st27⟩ := wrI X25 hx hZ e25 V25 (i := 11) (by decide) rfl (by decide) (g := (mkF m 77 #[.val (.int u0), .val (.int u1), .unset, .unset, .unset, .unset, .unset, .unset] [(.int (893 : Int32)), (.int (11 : Int32)), (.ref b2), (.ref b2)])) rfl rfl (hb hby at_77)
  have V27 := V25.set W27
  have N27 := Fr.snoc X27 N25 ge2
  have Z27 : n0 ≤ h27.size := Nat.le_trans Z25 (wr_le W27)
  refine OFin.go st27 ?_
  show OFin p e below _ (T27.setTop (mkF m 78 #[.val (.int u0), .val (.int u1), .unset, .unset, .unset, .unset, .unset, .unset] [(.ref b2)]))
  have S28 : ∀ t, Steps p.tables e below (T27.setTop (mkF m 84 #[.val (.int u0), .val (.int u1), .unset, .unset, .unset, .unset, .unset, .unset] [(.int (895 : Int32)), (.int (12 : Int32)), (.ref b2), (.ref b2)])) t → Steps p.tables e below (T27.setTop (mkF m 78 #[.val (.int u0), .val (.int u1), .unset, .unset, .unset, .unset, .unset, .unset] [(.ref b2)])) t := by
    intro t k
    show Steps p.tables e below (T27.setTop (mkF m 78 #[.val (.int u0), .val (.int u1), .unset, .unset, .unset, .unset, .unset, .unset] [(.ref b2)])) t
    refine XS.dup X27.here hx rfl (hb hby at_78) rfl rfl ?_
    show Steps p.tables e below (T27.setTop (mkF m 79 #[.val (.int u0), .val (.int u1), .unset, .unset, .unset, .unset, .unset, .unset] [(.ref b2), (.ref b2)])) t
    refine XS.bipush X27.here hx rfl (hb hby at_79) ?_
    show Steps p.tables e below (T27.setTop (mkF m 81 #[.val (.int u0), .val (.int u1), .unset, .unset, .unset, .unset, .unset, .unset] [(.int (12 : Int32)), (.ref b2), (.ref b2)])) t
    refine XS.sipush X27.here hx rfl (hb hby at_81) ?_
    exact k
  refine OFin.go S28 ?_
  obtain ⟨T29, h29, X29, e29, W29, st29⟩ := wrI X27 hx hZ e27 V27 (i := 12) (by decide) rfl (by decide) (g := (mkF m 84 #[.val (.int u0), .val (.int u1), .unset, .unset, .unset, .unset, .unset, .unset] [(.int (895 : Int32)), (.int (12 : Int32)), (.ref b2), (.ref b2)])) rfl rfl (hb hby at_84)
  have V29 := V27.set W29
  have N29 := Fr.snoc X29 N27 ge2
  have Z29 : n0 ≤ h29.size := Nat.le_trans Z27 (wr_le W29)
  refine OFin.go st29 ?_
  show OFin p e below _ (T29.setTop (mkF m 85 #[.val (.int u0), .val (.int u1), .unset, .unset, .unset, .unset, .unset, .unset] [(.ref b2)]))
  have S30 : ∀ t, Steps p.tables e below (T29.setTop (mkF m 91 #[.val (.int u0), .val (.int u1), .unset, .unset, .unset, .unset, .unset, .unset] [(.int (8191 : Int32)), (.int (13 : Int32)), (.ref b2), (.ref b2)])) t → Steps p.tables e below (T29.setTop (mkF m 85 #[.val (.int u0), .val (.int u1), .unset, .unset, .unset, .unset, .unset, .unset] [(.ref b2)])) t := by
    intro t k
    show Steps p.tables e below (T29.setTop (mkF m 85 #[.val (.int u0), .val (.int u1), .unset, .unset, .unset, .unset, .unset, .unset] [(.ref b2)])) t
    refine XS.dup X29.here hx rfl (hb hby at_85) rfl rfl ?_
    show Steps p.tables e below (T29.setTop (mkF m 86 #[.val (.int u0), .val (.int u1), .unset, .unset, .unset, .unset, .unset, .unset] [(.ref b2), (.ref b2)])) t
    refine XS.bipush X29.here hx rfl (hb hby at_86) ?_
    show Steps p.tables e below (T29.setTop (mkF m 88 #[.val (.int u0), .val (.int u1), .unset, .unset, .unset, .unset, .unset, .unset] [(.int (13 : Int32)), (.ref b2), (.ref b2)])) t
    refine XS.sipush X29.here hx rfl (hb hby at_88) ?_
    exact k
  refine OFin.go S30 ?_
  obtain ⟨T31, h31, X31, e31, W31, st31⟩ := wrI X29 hx hZ e29 V29 (i := 13) (by decide) rfl (by decide) (g := (mkF m 91 #[.val (.int u0), .val (.int u1), .unset, .unset, .unset, .unset, .unset, .unset] [(.int (8191 : Int32)), (.int (13 : Int32)), (.ref b2), (.ref b2)])) rfl rfl (hb hby at_91)
  have V31 := V29.set W31
  have N31 := Fr.snoc X31 N29 ge2
  have Z31 : n0 ≤ h31.size := Nat.le_trans Z29 (wr_le W31)
  refine OFin.go st31 ?_
  show OFin p e below _ (T31.setTop (mkF m 92 #[.val (.int u0), .val (.int u1), .unset, .unset, .unset, .unset, .unset, .unset] [(.ref b2)]))
  have S32 : ∀ t, Steps p.tables e below (T31.setTop (mkF m 98 #[.val (.int u0), .val (.int u1), .unset, .unset, .unset, .unset, .unset, .unset] [(.int (8204 : Int32)), (.int (14 : Int32)), (.ref b2), (.ref b2)])) t → Steps p.tables e below (T31.setTop (mkF m 92 #[.val (.int u0), .val (.int u1), .unset, .unset, .unset, .unset, .unset, .unset] [(.ref b2)])) t := by
    intro t k
    show Steps p.tables e below (T31.setTop (mkF m 92 #[.val (.int u0), .val (.int u1), .unset, .unset, .unset, .unset, .unset, .unset] [(.ref b2)])) t
    refine XS.dup X31.here hx rfl (hb hby at_92) rfl rfl ?_
    show Steps p.tables e below (T31.setTop (mkF m 93 #[.val (.int u0), .val (.int u1), .unset, .unset, .unset, .unset, .unset, .unset] [(.ref b2), (.ref b2)])) t
    refine XS.bipush X31.here hx rfl (hb hby at_93) ?_
    show Steps p.tables e below (T31.setTop (mkF m 95 #[.val (.int u0), .val (.int u1), .unset, .unset, .unset, .unset, .unset, .unset] [(.int (14 : Int32)), (.ref b2), (.ref b2)])) t
    refine XS.sipush X31.here hx rfl (hb hby at_95) ?_
    exact k
  refine OFin.go S32 ?_
  obtain ⟨T33, h33, X33, e33, W33, st33⟩ := wrI X31 hx hZ e31 V31 (i := 14) (by decide) rfl (by decide) (g := (mkF m 98 #[.val (.int u0), .val (.int u1), .unset, .unset, .unset, .unset, .unset, .unset] [(.int (8204 : Int32)), (.int (14 : Int32)), (.ref b2), (.ref b2)])) rfl rfl (hb hby at_98)
  have V33 := V31.set W33
  have N33 := Fr.snoc X33 N31 ge2
  have Z33 : n0 ≤ h33.size := Nat.le_trans Z31 (wr_le W33)
  refine OFin.go st33 ?_
  show OFin p e below _ (T33.setTop (mkF m 99 #[.val (.int u0), .val (.int u1), .unset, .unset, .unset, .unset, .unset, .unset] [(.ref b2)]))
  have S34 : ∀ t, Steps p.tables e below (T33.setTop (mkF m 105 #[.val (.int u0), .val (.int u1), .unset, .unset, .unset, .unset, .unset, .unset] [(.int (8205 : Int32)), (.int (15 : Int32)), (.ref b2), (.ref b2)])) t → Steps p.tables e below (T33.setTop (mkF m 99 #[.val (.int u0), .val (.int u1), .unset, .unset, .unset, .unset, .unset, .unset] [(.ref b2)])) t := by
    intro t k
    show Steps p.tables e below (T33.setTop (mkF m 99 #[.val (.int u0), .val (.int u1), .unset, .unset, .unset, .unset, .unset, .unset] [(.ref b2)])) t
    refine XS.dup X33.here hx rfl (hb hby at_99) rfl rfl ?_
    show Steps p.tables e below (T33.setTop (mkF m 100 #[.val (.int u0), .val (.int u1), .unset, .unset, .unset, .unset, .unset, .unset] [(.ref b2), (.ref b2)])) t
    refine XS.bipush X33.here hx rfl (hb hby at_100) ?_
    show Steps p.tables e below (T33.setTop (mkF m 102 #[.val (.int u0), .val (.int u1), .unset, .unset, .unset, .unset, .unset, .unset] [(.int (15 : Int32)), (.ref b2), (.ref b2)])) t
    refine XS.sipush X33.here hx rfl (hb hby at_102) ?_
    exact k
  refine OFin.go S34 ?_
  obtain ⟨T35, h35, X35, e35, W35, st35⟩ := wrI X33 hx hZ e33 V33 (i := 15) (by decide) rfl (by decide) (g := (mkF m 105 #[.val (.int u0), .val (.int u1), .unset, .unset, .unset, .unset, .unset, .unset] [(.int (8205 : Int32)), (.int (15 : Int32)), (.ref b2), (.ref b2)])) rfl rfl (hb hby at_105)
  have V35 := V33.set W35
  have N35 := Fr.snoc X35 N33 ge2
  have Z35 : n0 ≤ h35.size := Nat.le_trans Z33 (wr_le W35)
  refine OFin.go st35 ?_
  show OFin p e below _ (T35.setTop (mkF m 106 #[.val (.int u0), .val (.int u1), .unset, .unset, .unset, .unset, .unset, .unset] [(.ref b2)]))
  have S36 : ∀ t, Steps p.tables e below (T35.setTop (mkF m 112 #[.val (.int u0), .val (.int u1), .unset, .unset, .unset, .unset, .unset, .unset] [(.int (8304 : Int32)), (.int (16 : Int32)), (.ref b2), (.ref b2)])) t → Steps p.tables e below (T35.setTop (mkF m 106 #[.val (.int u0), .val (.int u1), .unset, .unset, .unset, .unset, .unset, .unset] [(.ref b2)])) t := by
    intro t k
    show Steps p.tables e below (T35.setTop (mkF m 106 #[.val (.int u0), .val (.int u1), .unset, .unset, .unset, .unset, .unset, .unset] [(.ref b2)])) t
    refine XS.dup X35.here hx rfl (hb hby at_106) rfl rfl ?_
    show Steps p.tables e below (T35.setTop (mkF m 107 #[.val (.int u0), .val (.int u1), .unset, .unset, .unset, .unset, .unset, .unset] [(.ref b2), (.ref b2)])) t
    refine XS.bipush X35.here hx rfl (hb hby at_107) ?_
    show Steps p.tables e below (T35.setTop (mkF m 109 #[.val (.int u0), .val (.int u1), .unset, .unset, .unset, .unset, .unset, .unset] [(.int (16 : Int32)), (.ref b2), (.ref b2)])) t
    refine XS.sipush X35.here hx rfl (hb hby at_109) ?_
    exact k
  refine OFin.go S36 ?_
  obtain ⟨T37, h37, X37, e37, W37, st37⟩ := wrI X35 hx hZ e35 V35 (i := 16) (by decide) rfl (by decide) (g := (mkF m 112 #[.val (.int u0), .val (.int u1), .unset, .unset, .unset, .unset, .unset, .unset] [(.int (8304 : Int32)), (.int (16 : Int32)), (.ref b2), (.ref b2)])) rfl rfl (hb hby at_112)
  have V37 := V35.set W37
  have N37 := Fr.snoc X37 N35 ge2
  have Z37 : n0 ≤ h37.size := Nat.le_trans Z35 (wr_le W37)
  refine OFin.go st37 ?_
  show OFin p e below _ (T37.setTop (mkF m 113 #[.val (.int u0), .val (.int u1), .unset, .unset, .unset, .unset, .unset, .unset] [(.ref b2)]))
  have S38 : ∀ t, Steps p.tables e below (T37.setTop (mkF m 119 #[.val (.int u0), .val (.int u1), .unset, .unset, .unset, .unset, .unset, .unset] [(.int (8591 : Int32)), (.int (17 : Int32)), (.ref b2), (.ref b2)])) t → Steps p.tables e below (T37.setTop (mkF m 113 #[.val (.int u0), .val (.int u1), .unset, .unset, .unset, .unset, .unset, .unset] [(.ref b2)])) t := by
    intro t k
    show Steps p.tables e below (T37.setTop (mkF m 113 #[.val (.int u0), .val (.int u1), .unset, .unset, .unset, .unset, .unset, .unset] [(.ref b2)])) t
    refine XS.dup X37.here hx rfl (hb hby at_113) rfl rfl ?_
    show Steps p.tables e below (T37.setTop (mkF m 114 #[.val (.int u0), .val (.int u1), .unset, .unset, .unset, .unset, .unset, .unset] [(.ref b2), (.ref b2)])) t
    refine XS.bipush X37.here hx rfl (hb hby at_114) ?_
    show Steps p.tables e below (T37.setTop (mkF m 116 #[.val (.int u0), .val (.int u1), .unset, .unset, .unset, .unset, .unset, .unset] [(.int (17 : Int32)), (.ref b2), (.ref b2)])) t
    refine XS.sipush X37.here hx rfl (hb hby at_116) ?_
    exact k
  refine OFin.go S38 ?_
  obtain ⟨T39, h39, X39, e39, W39, st39⟩ := wrI X37 hx hZ e37 V37 (i := 17) (by decide) rfl (by decide) (g := (mkF m 119 #[.val (.int u0), .val (.int u1), .unset, .unset, .unset, .unset, .unset, .unset] [(.int (8591 : Int32)), (.int (17 : Int32)), (.ref b2), (.ref b2)])) rfl rfl (hb hby at_119)
  have V39 := V37.set W39
  have N39 := Fr.snoc X39 N37 ge2
  have Z39 : n0 ≤ h39.size := Nat.le_trans Z37 (wr_le W39)
  refine OFin.go st39 ?_
  show OFin p e below _ (T39.setTop (mkF m 120 #[.val (.int u0), .val (.int u1), .unset, .unset, .unset, .unset, .unset, .unset] [(.ref b2)]))
  have S40 : ∀ t, Steps p.tables e below (T39.setTop (mkF m 126 #[.val (.int u0), .val (.int u1), .unset, .unset, .unset, .unset, .unset, .unset] [(.int (11264 : Int32)), (.int (18 : Int32)), (.ref b2), (.ref b2)])) t → Steps p.tables e below (T39.setTop (mkF m 120 #[.val (.int u0), .val (.int u1), .unset, .unset, .unset, .unset, .unset, .unset] [(.ref b2)])) t := by
    intro t k
    show Steps p.tables e below (T39.setTop (mkF m 120 #[.val (.int u0), .val (.int u1), .unset, .unset, .unset, .unset, .unset, .unset] [(.ref b2)])) t
    refine XS.dup X39.here hx rfl (hb hby at_120) rfl rfl ?_
    show Steps p.tables e below (T39.setTop (mkF m 121 #[.val (.int u0), .val (.int u1), .unset, .unset, .unset, .unset, .unset, .unset] [(.ref b2), (.ref b2)])) t
    refine XS.bipush X39.here hx rfl (hb hby at_121) ?_
    show Steps p.tables e below (T39.setTop (mkF m 123 #[.val (.int u0), .val (.int u1), .unset, .unset, .unset, .unset, .unset, .unset] [(.int (18 : Int32)), (.ref b2), (.ref b2)])) t
    refine XS.sipush X39.here hx rfl (hb hby at_123) ?_
    exact k
  refine OFin.go S40 ?_
  obtain ⟨T41, h41, X41, e41, W41, st41⟩ := wrI X39 hx hZ e39 V39 (i := 18) (by decide) rfl (by decide) (g := (mkF m 126 #[.val (.int u0), .val (.int u1), .unset, .unset, .unset, .unset, .unset, .unset] [(.int (11264 : Int32)), (.int (18 : Int32)), (.ref b2), (.ref b2)])) rfl rfl (hb hby at_126)
  have V41 := V39.set W41
  have N41 := Fr.snoc X41 N39 ge2
  have Z41 : n0 ≤ h41.size := Nat.le_trans Z39 (wr_le W41)
  refine OFin.go st41 ?_
  show OFin p e below _ (T41.setTop (mkF m 127 #[.val (.int u0), .val (.int u1), .unset, .unset, .unset, .unset, .unset, .unset] [(.ref b2)]))
  have S42 : ∀ t, Steps p.tables e below (T41.setTop (mkF m 133 #[.val (.int u0), .val (.int u1), .unset, .unset, .unset, .unset, .unset, .unset] [(.int (12271 : Int32)), (.int (19 : Int32)), (.ref b2), (.ref b2)])) t → Steps p.tables e below (T41.setTop (mkF m 127 #[.val (.int u0), .val (.int u1), .unset, .unset, .unset, .unset, .unset, .unset] [(.ref b2)])) t := by
    intro t k
    show Steps p.tables e below (T41.setTop (mkF m 127 #[.val (.int u0), .val (.int u1), .unset, .unset, .unset, .unset, .unset, .unset] [(.ref b2)])) t
    refine XS.dup X41.here hx rfl (hb hby at_127) rfl rfl ?_
    show Steps p.tables e below (T41.setTop (mkF m 128 #[.val (.int u0), .val (.int u1), .unset, .unset, .unset, .unset, .unset, .unset] [(.ref b2), (.ref b2)])) t
    refine XS.bipush X41.here hx rfl (hb hby at_128) ?_
    show Steps p.tables e below (T41.setTop (mkF m 130 #[.val (.int u0), .val (.int u1), .unset, .unset, .unset, .unset, .unset, .unset] [(.int (19 : Int32)), (.ref b2), (.ref b2)])) t
    refine XS.sipush X41.here hx rfl (hb hby at_130) ?_
    exact k
  refine OFin.go S42 ?_
  obtain ⟨T43, h43, X43, e43, W43, st43⟩ := wrI X41 hx hZ e41 V41 (i := 19) (by decide) rfl (by decide) (g := (mkF m 133 #[.val (.int u0), .val (.int u1), .unset, .unset, .unset, .unset, .unset, .unset] [(.int (12271 : Int32)), (.int (19 : Int32)), (.ref b2), (.ref b2)])) rfl rfl (hb hby at_133)
  have V43 := V41.set W43
  have N43 := Fr.snoc X43 N41 ge2
  have Z43 : n0 ≤ h43.size := Nat.le_trans Z41 (wr_le W43)
  refine OFin.go st43 ?_
  show OFin p e below _ (T43.setTop (mkF m 134 #[.val (.int u0), .val (.int u1), .unset, .unset, .unset, .unset, .unset, .unset] [(.ref b2)]))
  have S44 : ∀ t, Steps p.tables e below (T43.setTop (mkF m 140 #[.val (.int u0), .val (.int u1), .unset, .unset, .unset, .unset, .unset, .unset] [(.int (12289 : Int32)), (.int (20 : Int32)), (.ref b2), (.ref b2)])) t → Steps p.tables e below (T43.setTop (mkF m 134 #[.val (.int u0), .val (.int u1), .unset, .unset, .unset, .unset, .unset, .unset] [(.ref b2)])) t := by
    intro t k
    show Steps p.tables e below (T43.setTop (mkF m 134 #[.val (.int u0), .val (.int u1), .unset, .unset, .unset, .unset, .unset, .unset] [(.ref b2)])) t
    refine XS.dup X43.here hx rfl (hb hby at_134) rfl rfl ?_
    show Steps p.tables e below (T43.setTop (mkF m 135 #[.val (.int u0), .val (.int u1), .unset, .unset, .unset, .unset, .unset, .unset] [(.ref b2), (.ref b2)])) t
    refine XS.bipush X43.here hx rfl (hb hby at_135) ?_
    show Steps p.tables e below (T43.setTop (mkF m 137 #[.val (.int u0), .val (.int u1), .unset, .unset, .unset, .unset, .unset, .unset] [(.int (20 : Int32)), (.ref b2), (.ref b2)])) t
    refine XS.sipush X43.here hx rfl (hb hby at_137) ?_
    exact k
  refine OFin.go S44 ?_
  obtain ⟨T45, h45, X45, e45, W45, st45⟩ := wrI X43 hx hZ e43 V43 (i := 20) (by decide) rfl (by decide) (g := (mkF m 140 #[.val (.int u0), .val (.int u1), .unset, .unset, .unset, .unset, .unset, .unset] [(.int (12289 : Int32)), (.int (20 : Int32)), (.ref b2), (.ref b2)])) rfl rfl (hb hby at_140)
  have V45 := V43.set W45
  have N45 := Fr.snoc X45 N43 ge2
  have Z45 : n0 ≤ h45.size := Nat.le_trans Z43 (wr_le W45)
  refine OFin.go st45 ?_
  show OFin p e below _ (T45.setTop (mkF m 141 #[.val (.int u0), .val (.int u1), .unset, .unset, .unset, .unset, .unset, .unset] [(.ref b2)]))
  have S46 : ∀ t, Steps p.tables e below (T45.setTop (mkF m 146 #[.val (.int u0), .val (.int u1), .unset, .unset, .unset, .unset, .unset, .unset] [(.int (55295 : Int32)), (.int (21 : Int32)), (.ref b2), (.ref b2)])) t → Steps p.tables e below (T45.setTop (mkF m 141 #[.val (.int u0), .val (.int u1), .unset, .unset, .unset, .unset, .unset, .unset] [(.ref b2)])) t := by
    intro t k
    show Steps p.tables e below (T45.setTop (mkF m 141 #[.val (.int u0), .val (.int u1), .unset, .unset, .unset, .unset, .unset, .unset] [(.ref b2)])) t
    refine XS.dup X45.here hx rfl (hb hby at_141) rfl rfl ?_
    show Steps p.tables e below (T45.setTop (mkF m 142 #[.val (.int u0), .val (.int u1), .unset, .unset, .unset, .unset, .unset, .unset] [(.ref b2), (.ref b2)])) t
    refine XS.bipush X45.here hx rfl (hb hby at_142) ?_
    show Steps p.tables e below (T45.setTop (mkF m 144 #[.val (.int u0), .val (.int u1), .unset, .unset, .unset, .unset, .unset, .unset] [(.int (21 : Int32)), (.ref b2), (.ref b2)])) t
    refine X45.ldcInt hx hown (mvT hZ (hw _ (List.mem_of_getElem? (i := 1) rfl))) (g := (mkF m 144 #[.val (.int u0), .val (.int u1), .unset, .unset, .unset, .unset, .unset, .unset] [(.int (21 : Int32)), (.ref b2), (.ref b2)])) rfl (hb hby at_144) _ ?_
    exact k
  refine OFin.go S46 ?_
  obtain ⟨T47, h47, X47, e47, W47, st47⟩ := wrI X45 hx hZ e45 V45 (i := 21) (by decide) rfl (by decide) (g := (mkF m 146 #[.val (.int u0), .val (.int u1), .unset, .unset, .unset, .unset, .unset, .unset] [(.int (55295 : Int32)), (.int (21 : Int32)), (.ref b2), (.ref b2)])) rfl rfl (hb hby at_146)
  have V47 := V45.set W47
  have N47 := Fr.snoc X47 N45 ge2
  have Z47 : n0 ≤ h47.size := Nat.le_trans Z45 (wr_le W47)
  refine OFin.go st47 ?_
  show OFin p e below _ (T47.setTop (mkF m 147 #[.val (.int u0), .val (.int u1), .unset, .unset, .unset, .unset, .unset, .unset] [(.ref b2)]))
  have S48 : ∀ t, Steps p.tables e below (T47.setTop (mkF m 152 #[.val (.int u0), .val (.int u1), .unset, .unset, .unset, .unset, .unset, .unset] [(.int (63744 : Int32)), (.int (22 : Int32)), (.ref b2), (.ref b2)])) t → Steps p.tables e below (T47.setTop (mkF m 147 #[.val (.int u0), .val (.int u1), .unset, .unset, .unset, .unset, .unset, .unset] [(.ref b2)])) t := by
    intro t k
    show Steps p.tables e below (T47.setTop (mkF m 147 #[.val (.int u0), .val (.int u1), .unset, .unset, .unset, .unset, .unset, .unset] [(.ref b2)])) t
    refine XS.dup X47.here hx rfl (hb hby at_147) rfl rfl ?_
    show Steps p.tables e below (T47.setTop (mkF m 148 #[.val (.int u0), .val (.int u1), .unset, .unset, .unset, .unset, .unset, .unset] [(.ref b2), (.ref b2)])) t
    refine XS.bipush X47.here hx rfl (hb hby at_148) ?_
    show Steps p.tables e below (T47.setTop (mkF m 150 #[.val (.int u0), .val (.int u1), .unset, .unset, .unset, .unset, .unset, .unset] [(.int (22 : Int32)), (.ref b2), (.ref b2)])) t
    refine X47.ldcInt hx hown (mvT hZ (hw _ (List.mem_of_getElem? (i := 2) rfl))) (g := (mkF m 150 #[.val (.int u0), .val (.int u1), .unset, .unset, .unset, .unset, .unset, .unset] [(.int (22 : Int32)), (.ref b2), (.ref b2)])) rfl (hb hby at_150) _ ?_
    exact k
  refine OFin.go S48 ?_
  obtain ⟨T49, h49, X49, e49, W49, st49⟩ := wrI X47 hx hZ e47 V47 (i := 22) (by decide) rfl (by decide) (g := (mkF m 152 #[.val (.int u0), .val (.int u1), .unset, .unset, .unset, .unset, .unset, .unset] [(.int (63744 : Int32)), (.int (22 : Int32)), (.ref b2), (.ref b2)])) rfl rfl (hb hby at_152)
  have V49 := V47.set W49
  have N49 := Fr.snoc X49 N47 ge2
  have Z49 : n0 ≤ h49.size := Nat.le_trans Z47 (wr_le W49)
  refine OFin.go st49 ?_
  show OFin p e below _ (T49.setTop (mkF m 153 #[.val (.int u0), .val (.int u1), .unset, .unset, .unset, .unset, .unset, .unset] [(.ref b2)]))
  have S50 : ∀ t, Steps p.tables e below (T49.setTop (mkF m 158 #[.val (.int u0), .val (.int u1), .unset, .unset, .unset, .unset, .unset, .unset] [(.int (64975 : Int32)), (.int (23 : Int32)), (.ref b2), (.ref b2)])) t → Steps p.tables e below (T49.setTop (mkF m 153 #[.val (.int u0), .val (.int u1), .unset, .unset, .unset, .unset, .unset, .unset] [(.ref b2)])) t := by
    intro t k
    show Steps p.tables e below (T49.setTop (mkF m 153 #[.val (.int u0), .val (.int u1), .unset, .unset, .unset, .unset, .unset, .unset] [(.ref b2)])) t
    refine XS.dup X49.here hx rfl (hb hby at_153) rfl rfl ?_
    show Steps p.tables e below (T49.setTop (mkF m 154 #[.val (.int u0), .val (.int u1), .unset, .unset, .unset, .unset, .unset, .unset] [(.ref b2), (.ref b2)])) t
    refine XS.bipush X49.here hx rfl (hb hby at_154) ?_
    show Steps p.tables e below (T49.setTop (mkF m 156 #[.val (.int u0), .val (.int u1), .unset, .unset, .unset, .unset, .unset, .unset] [(.int (23 : Int32)), (.ref b2), (.ref b2)])) t
    refine X49.ldcInt hx hown (mvT hZ (hw _ (List.mem_of_getElem? (i := 3) rfl))) (g := (mkF m 156 #[.val (.int u0), .val (.int u1), .unset, .unset, .unset, .unset, .unset, .unset] [(.int (23 : Int32)), (.ref b2), (.ref b2)])) rfl (hb hby at_156) _ ?_
    exact k
  refine OFin.go S50 ?_
  obtain ⟨T51, h51, X51, e51, W51, st51⟩ := wrI X49 hx hZ e49 V49 (i := 23) (by decide) rfl (by decide) (g := (mkF m 158 #[.val (.int u0), .val (.int u1), .unset, .unset, .unset, .unset, .unset, .unset] [(.int (64975 : Int32)), (.int (23 : Int32)), (.ref b2), (.ref b2)])) rfl rfl (hb hby at_158)
  have V51 := V49.set W51
  have N51 := Fr.snoc X51 N49 ge2
  have Z51 : n0 ≤ h51.size := Nat.le_trans Z49 (wr_le W51)
  refine OFin.go st51 ?_
  show OFin p e below _ (T51.setTop (mkF m 159 #[.val (.int u0), .val (.int u1), .unset, .unset, .unset, .unset, .unset, .unset] [(.ref b2)]))
  have S52 : ∀ t, Steps p.tables e below (T51.setTop (mkF m 164 #[.val (.int u0), .val (.int u1), .unset, .unset, .unset, .unset, .unset, .unset] [(.int (65008 : Int32)), (.int (24 : Int32)), (.ref b2), (.ref b2)])) t → Steps p.tables e below (T51.setTop (mkF m 159 #[.val (.int u0), .val (.int u1), .unset, .unset, .unset, .unset, .unset, .unset] [(.ref b2)])) t := by
    intro t k
    show Steps p.tables e below (T51.setTop (mkF m 159 #[.val (.int u0), .val (.int u1), .unset, .unset, .unset, .unset, .unset, .unset] [(.ref b2)])) t
    refine XS.dup X51.here hx rfl (hb hby at_159) rfl rfl ?_
    show Steps p.tables e below (T51.setTop (mkF m 160 #[.val (.int u0), .val (.int u1), .unset, .unset, .unset, .unset, .unset, .unset] [(.ref b2), (.ref b2)])) t
    refine XS.bipush X51.here hx rfl (hb hby at_160) ?_
    show Steps p.tables e below (T51.setTop (mkF m 162 #[.val (.int u0), .val (.int u1), .unset, .unset, .unset, .unset, .unset, .unset] [(.int (24 : Int32)), (.ref b2), (.ref b2)])) t
    refine X51.ldcInt hx hown (mvT hZ (hw _ (List.mem_of_getElem? (i := 4) rfl))) (g := (mkF m 162 #[.val (.int u0), .val (.int u1), .unset, .unset, .unset, .unset, .unset, .unset] [(.int (24 : Int32)), (.ref b2), (.ref b2)])) rfl (hb hby at_162) _ ?_
    exact k
  refine OFin.go S52 ?_
  obtain ⟨T53, h53, X53, e53, W53, st53⟩ := wrI X51 hx hZ e51 V51 (i := 24) (by decide) rfl (by decide) (g := (mkF m 164 #[.val (.int u0), .val (.int u1), .unset, .unset, .unset, .unset, .unset, .unset] [(.int (65008 : Int32)), (.int (24 : Int32)), (.ref b2), (.ref b2)])) rfl rfl (hb hby at_164)
  have V53 := V51.set W53
  have N53 := Fr.snoc X53 N51 ge2
  have Z53 : n0 ≤ h53.size := Nat.le_trans Z51 (wr_le W53)
  refine OFin.go st53 ?_
  show OFin p e below _ (T53.setTop (mkF m 165 #[.val (.int u0), .val (.int u1), .unset, .unset, .unset, .unset, .unset, .unset] [(.ref b2)]))
  have S54 : ∀ t, Steps p.tables e below (T53.setTop (mkF m 170 #[.val (.int u0), .val (.int u1), .unset, .unset, .unset, .unset, .unset, .unset] [(.int (65533 : Int32)), (.int (25 : Int32)), (.ref b2), (.ref b2)])) t → Steps p.tables e below (T53.setTop (mkF m 165 #[.val (.int u0), .val (.int u1), .unset, .unset, .unset, .unset, .unset, .unset] [(.ref b2)])) t := by
    intro t k
    show Steps p.tables e below (T53.setTop (mkF m 165 #[.val (.int u0), .val (.int u1), .unset, .unset, .unset, .unset, .unset, .unset] [(.ref b2)])) t
    refine XS.dup X53.here hx rfl (hb hby at_165) rfl rfl ?_
    show Steps p.tables e below (T53.setTop (mkF m 166 #[.val (.int u0), .val (.int u1), .unset, .unset, .unset, .unset, .unset, .unset] [(.ref b2), (.ref b2)])) t
    refine XS.bipush X53.here hx rfl (hb hby at_166) ?_
    show Steps p.tables e below (T53.setTop (mkF m 168 #[.val (.int u0), .val (.int u1), .unset, .unset, .unset, .unset, .unset, .unset] [(.int (25 : Int32)), (.ref b2), (.ref b2)])) t
    refine X53.ldcInt hx hown (mvT hZ (hw _ (List.mem_of_getElem? (i := 5) rfl))) (g := (mkF m 168 #[.val (.int u0), .val (.int u1), .unset, .unset, .unset, .unset, .unset, .unset] [(.int (25 : Int32)), (.ref b2), (.ref b2)])) rfl (hb hby at_168) _ ?_
    exact k
  refine OFin.go S54 ?_
  obtain ⟨T55, h55, X55, e55, W55, st55⟩ := wrI X53 hx hZ e53 V53 (i := 25) (by decide) rfl (by decide) (g := (mkF m 170 #[.val (.int u0), .val (.int u1), .unset, .unset, .unset, .unset, .unset, .unset] [(.int (65533 : Int32)), (.int (25 : Int32)), (.ref b2), (.ref b2)])) rfl rfl (hb hby at_170)
  have V55 := V53.set W55
  have N55 := Fr.snoc X55 N53 ge2
  have Z55 : n0 ≤ h55.size := Nat.le_trans Z53 (wr_le W55)
  refine OFin.go st55 ?_
  show OFin p e below _ (T55.setTop (mkF m 171 #[.val (.int u0), .val (.int u1), .unset, .unset, .unset, .unset, .unset, .unset] [(.ref b2)]))
  have S56 : ∀ t, Steps p.tables e below (T55.setTop (mkF m 176 #[.val (.int u0), .val (.int u1), .unset, .unset, .unset, .unset, .unset, .unset] [(.int (65536 : Int32)), (.int (26 : Int32)), (.ref b2), (.ref b2)])) t → Steps p.tables e below (T55.setTop (mkF m 171 #[.val (.int u0), .val (.int u1), .unset, .unset, .unset, .unset, .unset, .unset] [(.ref b2)])) t := by
    intro t k
    show Steps p.tables e below (T55.setTop (mkF m 171 #[.val (.int u0), .val (.int u1), .unset, .unset, .unset, .unset, .unset, .unset] [(.ref b2)])) t
    refine XS.dup X55.here hx rfl (hb hby at_171) rfl rfl ?_
    show Steps p.tables e below (T55.setTop (mkF m 172 #[.val (.int u0), .val (.int u1), .unset, .unset, .unset, .unset, .unset, .unset] [(.ref b2), (.ref b2)])) t
    refine XS.bipush X55.here hx rfl (hb hby at_172) ?_
    show Steps p.tables e below (T55.setTop (mkF m 174 #[.val (.int u0), .val (.int u1), .unset, .unset, .unset, .unset, .unset, .unset] [(.int (26 : Int32)), (.ref b2), (.ref b2)])) t
    refine X55.ldcInt hx hown (mvT hZ (hw _ (List.mem_of_getElem? (i := 6) rfl))) (g := (mkF m 174 #[.val (.int u0), .val (.int u1), .unset, .unset, .unset, .unset, .unset, .unset] [(.int (26 : Int32)), (.ref b2), (.ref b2)])) rfl (hb hby at_174) _ ?_
    exact k
  refine OFin.go S56 ?_
  obtain ⟨T57, h57, X57, e57, W57, st57⟩ := wrI X55 hx hZ e55 V55 (i := 26) (by decide) rfl (by decide) (g := (mkF m 176 #[.val (.int u0), .val (.int u1), .unset, .unset, .unset, .unset, .unset, .unset] [(.int (65536 : Int32)), (.int (26 : Int32)), (.ref b2), (.ref b2)])) rfl rfl (hb hby at_176)
  have V57 := V55.set W57
  have N57 := Fr.snoc X57 N55 ge2
  have Z57 : n0 ≤ h57.size := Nat.le_trans Z55 (wr_le W57)
  refine OFin.go st57 ?_
  show OFin p e below _ (T57.setTop (mkF m 177 #[.val (.int u0), .val (.int u1), .unset, .unset, .unset, .unset, .unset, .unset] [(.ref b2)]))
  have S58 : ∀ t, Steps p.tables e below (T57.setTop (mkF m 182 #[.val (.int u0), .val (.int u1), .unset, .unset, .unset, .unset, .unset, .unset] [(.int (983039 : Int32)), (.int (27 : Int32)), (.ref b2), (.ref b2)])) t → Steps p.tables e below (T57.setTop (mkF m 177 #[.val (.int u0), .val (.int u1), .unset, .unset, .unset, .unset, .unset, .unset] [(.ref b2)])) t := by
    intro t k
    show Steps p.tables e below (T57.setTop (mkF m 177 #[.val (.int u0), .val (.int u1), .unset, .unset, .unset, .unset, .unset, .unset] [(.ref b2)])) t
    refine XS.dup X57.here hx rfl (hb hby at_177) rfl rfl ?_
    show Steps p.tables e below (T57.setTop (mkF m 178 #[.val (.int u0), .val (.int u1), .unset, .unset, .unset, .unset, .unset, .unset] [(.ref b2), (.ref b2)])) t
    refine XS.bipush X57.here hx rfl (hb hby at_178) ?_
    show Steps p.tables e below (T57.setTop (mkF m 180 #[.val (.int u0), .val (.int u1), .unset, .unset, .unset, .unset, .unset, .unset] [(.int (27 : Int32)), (.ref b2), (.ref b2)])) t
    refine X57.ldcInt hx hown (mvT hZ (hw _ (List.mem_of_getElem? (i := 7) rfl))) (g := (mkF m 180 #[.val (.int u0), .val (.int u1), .unset, .unset, .unset, .unset, .unset, .unset] [(.int (27 : Int32)), (.ref b2), (.ref b2)])) rfl (hb hby at_180) _ ?_
    exact k
  refine OFin.go S58 ?_
  obtain ⟨T59, h59, X59, e59, W59, st59⟩ := wrI X57 hx hZ e57 V57 (i := 27) (by decide) rfl (by decide) (g := (mkF m 182 #[.val (.int u0), .val (.int u1), .unset, .unset, .unset, .unset, .unset, .unset] [(.int (983039 : Int32)), (.int (27 : Int32)), (.ref b2), (.ref b2)])) rfl rfl (hb hby at_182)
  have V59 := V57.set W59
  have N59 := Fr.snoc X59 N57 ge2
  have Z59 : n0 ≤ h59.size := Nat.le_trans Z57 (wr_le W59)
  refine OFin.go st59 ?_
  show OFin p e below _ (T59.setTop (mkF m 183 #[.val (.int u0), .val (.int u1), .unset, .unset, .unset, .unset, .unset, .unset] [(.ref b2)]))
  have S60 : ∀ t, Steps p.tables e below (T59.setTop (mkF m 203 #[.val (.int u0), .val (.int u1), .val (.ref b2), .val (.int ((u1 &&& (255 : Int32)) % (28 : Int32))), .val (.int ((((u1.toUInt32 >>> ((8 : Int32) &&& 31).toUInt32).toInt32) % (3 : Int32)) - (1 : Int32))), .unset, .unset, .unset] [])) t → Steps p.tables e below (T59.setTop (mkF m 183 #[.val (.int u0), .val (.int u1), .unset, .unset, .unset, .unset, .unset, .unset] [(.ref b2)])) t := by
    intro t k
    show Steps p.tables e below (T59.setTop (mkF m 183 #[.val (.int u0), .val (.int u1), .unset, .unset, .unset, .unset, .unset, .unset] [(.ref b2)])) t
    refine XS.astoreN X59.here hx rfl (hb hby at_183) rfl rfl (l' := #[.val (.int u0), .val (.int u1), .val (.ref b2), .unset, .unset, .unset, .unset, .unset]) rfl ?_
    show Steps p.tables e below (T59.setTop (mkF m 184 #[.val (.int u0), .val (.int u1), .val (.ref b2), .unset, .unset, .unset, .unset, .unset] [])) t
    refine XS.iloadN X59.here hx rfl (hb hby at_184) rfl ?_
    show Steps p.tables e below (T59.setTop (mkF m 185 #[.val (.int u0), .val (.int u1), .val (.ref b2), .unset, .unset, .unset, .unset, .unset] [(.int u1)])) t
    refine XS.sipush X59.here hx rfl (hb hby at_185) ?_
    show Steps p.tables e below (T59.setTop (mkF m 188 #[.val (.int u0), .val (.int u1), .val (.ref b2), .unset, .unset, .unset, .unset, .unset] [(.int (255 : Int32)), (.int u1)])) t
    refine XS.iand X59.here hx rfl (hb hby at_188) rfl ?_
    show Steps p.tables e below (T59.setTop (mkF m 189 #[.val (.int u0), .val (.int u1), .val (.ref b2), .unset, .unset, .unset, .unset, .unset] [(.int (u1 &&& (255 : Int32)))])) t
    refine XS.bipush X59.here hx rfl (hb hby at_189) ?_
    show Steps p.tables e below (T59.setTop (mkF m 191 #[.val (.int u0), .val (.int u1), .val (.ref b2), .unset, .unset, .unset, .unset, .unset] [(.int (28 : Int32)), (.int (u1 &&& (255 : Int32)))])) t
    refine iremM X59 hx rfl (hb hby at_191) rfl (by decide) ?_
    show Steps p.tables e below (T59.setTop (mkF m 192 #[.val (.int u0), .val (.int u1), .val (.ref b2), .unset, .unset, .unset, .unset, .unset] [(.int ((u1 &&& (255 : Int32)) % (28 : Int32)))])) t
    refine XS.istoreN X59.here hx rfl (hb hby at_192) rfl (l' := #[.val (.int u0), .val (.int u1), .val (.ref b2), .val (.int ((u1 &&& (255 : Int32)) % (28 : Int32))), .unset, .unset, .unset, .unset]) rfl ?_
    show Steps p.tables e below (T59.setTop (mkF m 193 #[.val (.int u0), .val (.int u1), .val (.ref b2), .val (.int ((u1 &&& (255 : Int32)) % (28 : Int32))), .unset, .unset, .unset, .unset] [])) t
    refine XS.iloadN X59.here hx rfl (hb hby at_193) rfl ?_
    show Steps p.tables e below (T59.setTop (mkF m 194 #[.val (.int u0), .val (.int u1), .val (.ref b2), .val (.int ((u1 &&& (255 : Int32)) % (28 : Int32))), .unset, .unset, .unset, .unset] [(.int u1)])) t
    refine XS.bipush X59.here hx rfl (hb hby at_194) ?_
    show Steps p.tables e below (T59.setTop (mkF m 196 #[.val (.int u0), .val (.int u1), .val (.ref b2), .val (.int ((u1 &&& (255 : Int32)) % (28 : Int32))), .unset, .unset, .unset, .unset] [(.int (8 : Int32)), (.int u1)])) t
    refine XS.iushr X59.here hx rfl (hb hby at_196) rfl ?_
    show Steps p.tables e below (T59.setTop (mkF m 197 #[.val (.int u0), .val (.int u1), .val (.ref b2), .val (.int ((u1 &&& (255 : Int32)) % (28 : Int32))), .unset, .unset, .unset, .unset] [(.int ((u1.toUInt32 >>> ((8 : Int32) &&& 31).toUInt32).toInt32))])) t
    refine XS.iconst X59.here hx rfl (hb hby at_197) ?_
    show Steps p.tables e below (T59.setTop (mkF m 198 #[.val (.int u0), .val (.int u1), .val (.ref b2), .val (.int ((u1 &&& (255 : Int32)) % (28 : Int32))), .unset, .unset, .unset, .unset] [(.int (3 : Int32)), (.int ((u1.toUInt32 >>> ((8 : Int32) &&& 31).toUInt32).toInt32))])) t
    refine iremM X59 hx rfl (hb hby at_198) rfl (by decide) ?_
    show Steps p.tables e below (T59.setTop (mkF m 199 #[.val (.int u0), .val (.int u1), .val (.ref b2), .val (.int ((u1 &&& (255 : Int32)) % (28 : Int32))), .unset, .unset, .unset, .unset] [(.int (((u1.toUInt32 >>> ((8 : Int32) &&& 31).toUInt32).toInt32) % (3 : Int32)))])) t
    refine XS.iconst X59.here hx rfl (hb hby at_199) ?_
    show Steps p.tables e below (T59.setTop (mkF m 200 #[.val (.int u0), .val (.int u1), .val (.ref b2), .val (.int ((u1 &&& (255 : Int32)) % (28 : Int32))), .unset, .unset, .unset, .unset] [(.int (1 : Int32)), (.int (((u1.toUInt32 >>> ((8 : Int32) &&& 31).toUInt32).toInt32) % (3 : Int32)))])) t
    refine XS.isub X59.here hx rfl (hb hby at_200) rfl ?_
    show Steps p.tables e below (T59.setTop (mkF m 201 #[.val (.int u0), .val (.int u1), .val (.ref b2), .val (.int ((u1 &&& (255 : Int32)) % (28 : Int32))), .unset, .unset, .unset, .unset] [(.int ((((u1.toUInt32 >>> ((8 : Int32) &&& 31).toUInt32).toInt32) % (3 : Int32)) - (1 : Int32)))])) t
    refine XS.istore X59.here hx rfl (hb hby at_201) rfl (l' := #[.val (.int u0), .val (.int u1), .val (.ref b2), .val (.int ((u1 &&& (255 : Int32)) % (28 : Int32))), .val (.int ((((u1.toUInt32 >>> ((8 : Int32) &&& 31).toUInt32).toInt32) % (3 : Int32)) - (1 : Int32))), .unset, .unset, .unset]) rfl ?_
    exact k
  refine OFin.go S60 ?_
  obtain ⟨idx, hidx⟩ : ∃ z : Int32, z = ((u1 &&& (255 : Int32)) % (28 : Int32)) := ⟨_, rfl⟩
  rw [← hidx]
  show OFin p e below _ (T59.setTop (mkF m 203 #[.val (.int u0), .val (.int u1), .val (.ref b2), .val (.int idx), .val (.int ((((u1.toUInt32 >>> ((8 : Int32) &&& 31).toUInt32).toInt32) % (3 : Int32)) - (1 : Int32))), .unset, .unset, .unset] []))
  obtain ⟨xb, hxb⟩ : ∃ z, (upd (upd (upd (upd (upd (upd (upd (upd (upd (upd (upd (upd (upd (upd (upd (upd (upd (upd (upd (upd (upd (upd (upd (upd (upd (upd (upd (upd (fun _ => defaultValue .int) 0 (.int (97 : Int32))) 1 (.int (122 : Int32))) 2 (.int (65 : Int32))) 3 (.int (90 : Int32))) 4 (.int (192 : Int32))) 5 (.int (214 : Int32))) 6 (.int (216 : Int32))) 7 (.int (246 : Int32))) 8 (.int (248 : Int32))) 9 (.int (767 : Int32))) 10 (.int (880 : Int32))) 11 (.int (893 : Int32))) 12 (.int (895 : Int32))) 13 (.int (8191 : Int32))) 14 (.int (8204 : Int32))) 15 (.int (8205 : Int32))) 16 (.int (8304 : Int32))) 17 (.int (8591 : Int32))) 18 (.int (11264 : Int32))) 19 (.int (12271 : Int32))) 20 (.int (12289 : Int32))) 21 (.int (55295 : Int32))) 22 (.int (63744 : Int32))) 23 (.int (64975 : Int32))) 24 (.int (65008 : Int32))) 25 (.int (65533 : Int32))) 26 (.int (65536 : Int32))) 27 (.int (983039 : Int32))) idx.toNatClampNeg = .int z := (upd_int (upd_int (upd_int (upd_int (upd_int (upd_int (upd_int (upd_int (upd_int (upd_int (upd_int (upd_int (upd_int (upd_int (upd_int (upd_int (upd_int (upd_int (upd_int (upd_int (upd_int (upd_int (upd_int (upd_int (upd_int (upd_int (upd_int (upd_int (fun _ => ⟨_, rfl⟩))))))))))))))))))))))))))))) _
  have S61 : ∀ t, Steps p.tables e below (T59.setTop (mkF m 212 #[.val (.int u0), .val (.int u1), .val (.ref b2), .val (.int idx), .val (.int ((((u1.toUInt32 >>> ((8 : Int32) &&& 31).toUInt32).toInt32) % (3 : Int32)) - (1 : Int32))), .val (.int (xb + ((((u1.toUInt32 >>> ((8 : Int32) &&& 31).toUInt32).toInt32) % (3 : Int32)) - (1 : Int32)))), .unset, .unset] [(.int u0)])) t → Steps p.tables e below (T59.setTop (mkF m 203 #[.val (.int u0), .val (.int u1), .val (.ref b2), .val (.int idx), .val (.int ((((u1.toUInt32 >>> ((8 : Int32) &&& 31).toUInt32).toInt32) % (3 : Int32)) - (1 : Int32))), .unset, .unset, .unset] [])) t := by
    intro t k
    show Steps p.tables e below (T59.setTop (mkF m 203 #[.val (.int u0), .val (.int u1), .val (.ref b2), .val (.int idx), .val (.int ((((u1.toUInt32 >>> ((8 : Int32) &&& 31).toUInt32).toInt32) % (3 : Int32)) - (1 : Int32))), .unset, .unset, .unset] [])) t
    refine XS.aloadN X59.here hx rfl (hb hby at_203) rfl rfl ?_
    show Steps p.tables e below (T59.setTop (mkF m 204 #[.val (.int u0), .val (.int u1), .val (.ref b2), .val (.int idx), .val (.int ((((u1.toUInt32 >>> ((8 : Int32) &&& 31).toUInt32).toInt32) % (3 : Int32)) - (1 : Int32))), .unset, .unset, .unset] [(.ref b2)])) t
    refine XS.iloadN X59.here hx rfl (hb hby at_204) rfl ?_
    show Steps p.tables e below (T59.setTop (mkF m 205 #[.val (.int u0), .val (.int u1), .val (.ref b2), .val (.int idx), .val (.int ((((u1.toUInt32 >>> ((8 : Int32) &&& 31).toUInt32).toInt32) % (3 : Int32)) - (1 : Int32))), .unset, .unset, .unset] [(.int idx), (.ref b2)])) t
    refine rdI X59 hx hZ e59 V59 (i := idx.toNatClampNeg) (own_idx hidx).1 rfl (own_idx hidx).2 (x := (.int xb)) hxb (g := (mkF m 205 #[.val (.int u0), .val (.int u1), .val (.ref b2), .val (.int idx), .val (.int ((((u1.toUInt32 >>> ((8 : Int32) &&& 31).toUInt32).toInt32) % (3 : Int32)) - (1 : Int32))), .unset, .unset, .unset] [(.int idx), (.ref b2)])) rfl rfl (hb hby at_205) ?_
    show Steps p.tables e below (T59.setTop (mkF m 206 #[.val (.int u0), .val (.int u1), .val (.ref b2), .val (.int idx), .val (.int ((((u1.toUInt32 >>> ((8 : Int32) &&& 31).toUInt32).toInt32) % (3 : Int32)) - (1 : Int32))), .unset, .unset, .unset] [(.int xb)])) t
    refine XS.iload X59.here hx rfl (hb hby at_206) rfl ?_
    show Steps p.tables e below (T59.setTop (mkF m 208 #[.val (.int u0), .val (.int u1), .val (.ref b2), .val (.int idx), .val (.int ((((u1.toUInt32 >>> ((8 : Int32) &&& 31).toUInt32).toInt32) % (3 : Int32)) - (1 : Int32))), .unset, .unset, .unset] [(.int ((((u1.toUInt32 >>> ((8 : Int32) &&& 31).toUInt32).toInt32) % (3 : Int32)) - (1 : Int32))), (.int xb)])) t
    refine XS.iadd X59.here hx rfl (hb hby at_208) rfl ?_
    show Steps p.tables e below (T59.setTop (mkF m 209 #[.val (.int u0), .val (.int u1), .val (.ref b2), .val (.int idx), .val (.int ((((u1.toUInt32 >>> ((8 : Int32) &&& 31).toUInt32).toInt32) % (3 : Int32)) - (1 : Int32))), .unset, .unset, .unset] [(.int (xb + ((((u1.toUInt32 >>> ((8 : Int32) &&& 31).toUInt32).toInt32) % (3 : Int32)) - (1 : Int32))))])) t
    refine XS.istore X59.here hx rfl (hb hby at_209) rfl (l' := #[.val (.int u0), .val (.int u1), .val (.ref b2), .val (.int idx), .val (.int ((((u1.toUInt32 >>> ((8 : Int32) &&& 31).toUInt32).toInt32) % (3 : Int32)) - (1 : Int32))), .val (.int (xb + ((((u1.toUInt32 >>> ((8 : Int32) &&& 31).toUInt32).toInt32) % (3 : Int32)) - (1 : Int32)))), .unset, .unset]) rfl ?_
    show Steps p.tables e below (T59.setTop (mkF m 211 #[.val (.int u0), .val (.int u1), .val (.ref b2), .val (.int idx), .val (.int ((((u1.toUInt32 >>> ((8 : Int32) &&& 31).toUInt32).toInt32) % (3 : Int32)) - (1 : Int32))), .val (.int (xb + ((((u1.toUInt32 >>> ((8 : Int32) &&& 31).toUInt32).toInt32) % (3 : Int32)) - (1 : Int32)))), .unset, .unset] [])) t
    refine XS.iloadN X59.here hx rfl (hb hby at_211) rfl ?_
    exact k
  refine OFin.go S61 ?_
  have F63 := SL.ext E2
  have F64 := F63.wr W5
  have F65 := F64.wr W7
  have F66 := F65.wr W9
  have F67 := F66.wr W11
  have F68 := F67.wr W13
  have F69 := F68.wr W15
  have F70 := F69.wr W17
  have F71 := F70.wr W19
  have F72 := F71.wr W21
  have F73 := F72.wr W23
  have F74 := F73.wr W25
  have F75 := F74.wr W27
  have F76 := F75.wr W29
  have F77 := F76.wr W31
  have F78 := F77.wr W33
  have F79 := F78.wr W35
  have F80 := F79.wr W37
  have F81 := F80.wr W39
  have F82 := F81.wr W41
  have F83 := F82.wr W43
  have F84 := F83.wr W45
  have F85 := F84.wr W47
  have F86 := F85.wr W49
  have F87 := F86.wr W51
  have F88 := F87.wr W53
  have F89 := F88.wr W55
  have F90 := F89.wr W57
  have F91 := F90.wr W59
  have F92 := VL.ext E2
  have F93 := F92.other W5 q3
  have F94 := F93.other W7 q3
  have F95 := F94.other W9 q3
  have F96 := F95.other W11 q3
  have F97 := F96.other W13 q3
  have F98 := F97.other W15 q3
  have F99 := F98.other W17 q3
  have F100 := F99.other W19 q3
  have F101 := F100.other W21 q3
  have F102 := F101.other W23 q3
  have F103 := F102.other W25 q3
  have F104 := F103.other W27 q3
  have F105 := F104.other W29 q3
  have F106 := F105.other W31 q3
  have F107 := F106.other W33 q3
  have F108 := F107.other W35 q3
  have F109 := F108.other W37 q3
  have F110 := F109.other W39 q3
  have F111 := F110.other W41 q3
  have F112 := F111.other W43 q3
  have F113 := F112.other W45 q3
  have F114 := F113.other W47 q3
  have F115 := F114.other W49 q3
  have F116 := F115.other W51 q3
  have F117 := F116.other W53 q3
  have F118 := F117.other W55 q3
  have F119 := F118.other W57 q3
  have F120 := F119.other W59 q3
  obtain ⟨_, T62, Lc62, X62, hQ62, st62⟩ := callQ X59 hx hZ (y := (⟨"com/example/godwit/godwit/model/QualifiedName", "isNameLetter", "(I)Z"⟩ : MethodName)) hown (hw _ (List.mem_of_getElem? (i := 8) rfl)) (hw _ (List.mem_of_getElem? (i := 9) rfl)) (hw _ (List.mem_of_getElem? (i := 10) rfl)) (hw _ (List.mem_of_getElem? (i := 11) rfl)) (by decide) (argsL := [(.int u0)]) (rest := []) (rm1 l Z a0 hw [] u0 aL h59 n0 Z59 F91 F120) (W := 0) (by decide) (by decide) e59 (g := (mkF m 212 #[.val (.int u0), .val (.int u1), .val (.ref b2), .val (.int idx), .val (.int ((((u1.toUInt32 >>> ((8 : Int32) &&& 31).toUInt32).toInt32) % (3 : Int32)) - (1 : Int32))), .val (.int (xb + ((((u1.toUInt32 >>> ((8 : Int32) &&& 31).toUInt32).toInt32) % (3 : Int32)) - (1 : Int32)))), .unset, .unset] [(.int u0)])) rfl (by rw [hml]; rfl) (lenOf pd_0 rfl) rfl (by show 2 * 0 + _ ≤ _; exact Nat.le_of_eq rfl) (hb hby at_212) (Nat.le_of_ble_eq_true rfl) (Nat.le_of_ble_eq_true rfl)
  obtain ⟨rfl, N62q, e62⟩ := hQ62
  have N62 := Fr.app N59 N62q
  refine OFin.go st62 ?_
  show OFin p e below _ (T62.setTop (mkF m 215 #[.val (.int u0), .val (.int u1), .val (.ref b2), .val (.int idx), .val (.int ((((u1.toUInt32 >>> ((8 : Int32) &&& 31).toUInt32).toInt32) % (3 : Int32)) - (1 : Int32))), .val (.int (xb + ((((u1.toUInt32 >>> ((8 : Int32) &&& 31).toUInt32).toInt32) % (3 : Int32)) - (1 : Int32)))), .unset, .unset] [(.int (fNL u0))]))
  have S121 : ∀ t, Steps p.tables e below (T62.setTop (mkF m 216 #[.val (.int u0), .val (.int u1), .val (.ref b2), .val (.int idx), .val (.int ((((u1.toUInt32 >>> ((8 : Int32) &&& 31).toUInt32).toInt32) % (3 : Int32)) - (1 : Int32))), .val (.int (xb + ((((u1.toUInt32 >>> ((8 : Int32) &&& 31).toUInt32).toInt32) % (3 : Int32)) - (1 : Int32)))), .unset, .unset] [(.int u0), (.int (fNL u0))])) t → Steps p.tables e below (T62.setTop (mkF m 215 #[.val (.int u0), .val (.int u1), .val (.ref b2), .val (.int idx), .val (.int ((((u1.toUInt32 >>> ((8 : Int32) &&& 31).toUInt32).toInt32) % (3 : Int32)) - (1 : Int32))), .val (.int (xb + ((((u1.toUInt32 >>> ((8 : Int32) &&& 31).toUInt32).toInt32) % (3 : Int32)) - (1 : Int32)))), .unset, .unset] [(.int (fNL u0))])) t := by
    intro t k
    show Steps p.tables e below (T62.setTop (mkF m 215 #[.val (.int u0), .val (.int u1), .val (.ref b2), .val (.int idx), .val (.int ((((u1.toUInt32 >>> ((8 : Int32) &&& 31).toUInt32).toInt32) % (3 : Int32)) - (1 : Int32))), .val (.int (xb + ((((u1.toUInt32 >>> ((8 : Int32) &&& 31).toUInt32).toInt32) % (3 : Int32)) - (1 : Int32)))), .unset, .unset] [(.int (fNL u0))])) t
    refine XS.iloadN X62.here hx rfl (hb hby at_215) rfl ?_
    exact k
  refine OFin.go S121 ?_
  obtain ⟨_, T122, Lc122, X122, hQ122, st122⟩ := callQ X62 hx hZ (y := (⟨"com/example/godwit/godwit/model/QualifiedNameIsNameLetterPinLaw", "ref", "(I)Z"⟩ : MethodName)) hown (hw _ (List.mem_of_getElem? (i := 12) rfl)) (hw _ (List.mem_of_getElem? (i := 13) rfl)) (hw _ (List.mem_of_getElem? (i := 14) rfl)) (hw _ (List.mem_of_getElem? (i := 15) rfl)) (by decide) (argsL := [(.int u0)]) (rest := [(.int (fNL u0))]) (rm2 l Z a0 hw [] u0 h59 n0 Z59) (W := 1) (by decide) (by decide) e62 (g := (mkF m 216 #[.val (.int u0), .val (.int u1), .val (.ref b2), .val (.int idx), .val (.int ((((u1.toUInt32 >>> ((8 : Int32) &&& 31).toUInt32).toInt32) % (3 : Int32)) - (1 : Int32))), .val (.int (xb + ((((u1.toUInt32 >>> ((8 : Int32) &&& 31).toUInt32).toInt32) % (3 : Int32)) - (1 : Int32)))), .unset, .unset] [(.int u0), (.int (fNL u0))])) rfl (by rw [hml]; rfl) (lenOf pd_0 rfl) rfl (by show 2 * 0 + _ ≤ _; exact Nat.le_of_eq rfl) (hb hby at_216) (Nat.le_of_ble_eq_true rfl) (Nat.le_of_ble_eq_true rfl)
  obtain ⟨rfl, N122q, e122⟩ := hQ122
  have N122 := Fr.app N62 N122q
  refine OFin.go st122 ?_
  show OFin p e below _ (T122.setTop (mkF m 219 #[.val (.int u0), .val (.int u1), .val (.ref b2), .val (.int idx), .val (.int ((((u1.toUInt32 >>> ((8 : Int32) &&& 31).toUInt32).toInt32) % (3 : Int32)) - (1 : Int32))), .val (.int (xb + ((((u1.toUInt32 >>> ((8 : Int32) &&& 31).toUInt32).toInt32) % (3 : Int32)) - (1 : Int32)))), .unset, .unset] [(.int (fRef u0)), (.int (fNL u0))]))
  have S123 : ∀ t, Steps p.tables e below (T122.setTop (mkF m 222 #[.val (.int u0), .val (.int u1), .val (.ref b2), .val (.int idx), .val (.int ((((u1.toUInt32 >>> ((8 : Int32) &&& 31).toUInt32).toInt32) % (3 : Int32)) - (1 : Int32))), .val (.int (xb + ((((u1.toUInt32 >>> ((8 : Int32) &&& 31).toUInt32).toInt32) % (3 : Int32)) - (1 : Int32)))), .unset, .unset] [])) t → Steps p.tables e below (T122.setTop (mkF m 219 #[.val (.int u0), .val (.int u1), .val (.ref b2), .val (.int idx), .val (.int ((((u1.toUInt32 >>> ((8 : Int32) &&& 31).toUInt32).toInt32) % (3 : Int32)) - (1 : Int32))), .val (.int (xb + ((((u1.toUInt32 >>> ((8 : Int32) &&& 31).toUInt32).toInt32) % (3 : Int32)) - (1 : Int32)))), .unset, .unset] [(.int (fRef u0)), (.int (fNL u0))])) t := by
    intro t k
    show Steps p.tables e below (T122.setTop (mkF m 219 #[.val (.int u0), .val (.int u1), .val (.ref b2), .val (.int idx), .val (.int ((((u1.toUInt32 >>> ((8 : Int32) &&& 31).toUInt32).toInt32) % (3 : Int32)) - (1 : Int32))), .val (.int (xb + ((((u1.toUInt32 >>> ((8 : Int32) &&& 31).toUInt32).toInt32) % (3 : Int32)) - (1 : Int32)))), .unset, .unset] [(.int (fRef u0)), (.int (fNL u0))])) t
    refine XS.icmpNo X122.here hx rfl (hb hby at_219) rfl (teq (own_same _)).2 ?_
    exact k
  refine OFin.go S123 ?_
  have S124 : ∀ t, Steps p.tables e below (T122.setTop (mkF m 231 #[.val (.int u0), .val (.int u1), .val (.ref b2), .val (.int idx), .val (.int ((((u1.toUInt32 >>> ((8 : Int32) &&& 31).toUInt32).toInt32) % (3 : Int32)) - (1 : Int32))), .val (.int (xb + ((((u1.toUInt32 >>> ((8 : Int32) &&& 31).toUInt32).toInt32) % (3 : Int32)) - (1 : Int32)))), .val (.int (1 : Int32)), .unset] [(.int (xb + ((((u1.toUInt32 >>> ((8 : Int32) &&& 31).toUInt32).toInt32) % (3 : Int32)) - (1 : Int32))))])) t → Steps p.tables e below (T122.setTop (mkF m 222 #[.val (.int u0), .val (.int u1), .val (.ref b2), .val (.int idx), .val (.int ((((u1.toUInt32 >>> ((8 : Int32) &&& 31).toUInt32).toInt32) % (3 : Int32)) - (1 : Int32))), .val (.int (xb + ((((u1.toUInt32 >>> ((8 : Int32) &&& 31).toUInt32).toInt32) % (3 : Int32)) - (1 : Int32)))), .unset, .unset] [])) t := by
    intro t k
    show Steps p.tables e below (T122.setTop (mkF m 222 #[.val (.int u0), .val (.int u1), .val (.ref b2), .val (.int idx), .val (.int ((((u1.toUInt32 >>> ((8 : Int32) &&& 31).toUInt32).toInt32) % (3 : Int32)) - (1 : Int32))), .val (.int (xb + ((((u1.toUInt32 >>> ((8 : Int32) &&& 31).toUInt32).toInt32) % (3 : Int32)) - (1 : Int32)))), .unset, .unset] [])) t
    refine XS.iconst X122.here hx rfl (hb hby at_222) ?_
    show Steps p.tables e below (T122.setTop (mkF m 223 #[.val (.int u0), .val (.int u1), .val (.ref b2), .val (.int idx), .val (.int ((((u1.toUInt32 >>> ((8 : Int32) &&& 31).toUInt32).toInt32) % (3 : Int32)) - (1 : Int32))), .val (.int (xb + ((((u1.toUInt32 >>> ((8 : Int32) &&& 31).toUInt32).toInt32) % (3 : Int32)) - (1 : Int32)))), .unset, .unset] [(.int (1 : Int32))])) t
    refine XS.goto X122.here hx rfl (pc0 := 223) (pc' := 227) rfl (hb hby at_223) (by decide) (by decide) ?_
    show Steps p.tables e below (T122.setTop (mkF m 227 #[.val (.int u0), .val (.int u1), .val (.ref b2), .val (.int idx), .val (.int ((((u1.toUInt32 >>> ((8 : Int32) &&& 31).toUInt32).toInt32) % (3 : Int32)) - (1 : Int32))), .val (.int (xb + ((((u1.toUInt32 >>> ((8 : Int32) &&& 31).toUInt32).toInt32) % (3 : Int32)) - (1 : Int32)))), .unset, .unset] [(.int (1 : Int32))])) t
    refine XS.istore X122.here hx rfl (hb hby at_227) rfl (l' := #[.val (.int u0), .val (.int u1), .val (.ref b2), .val (.int idx), .val (.int ((((u1.toUInt32 >>> ((8 : Int32) &&& 31).toUInt32).toInt32) % (3 : Int32)) - (1 : Int32))), .val (.int (xb + ((((u1.toUInt32 >>> ((8 : Int32) &&& 31).toUInt32).toInt32) % (3 : Int32)) - (1 : Int32)))), .val (.int (1 : Int32)), .unset]) rfl ?_
    show Steps p.tables e below (T122.setTop (mkF m 229 #[.val (.int u0), .val (.int u1), .val (.ref b2), .val (.int idx), .val (.int ((((u1.toUInt32 >>> ((8 : Int32) &&& 31).toUInt32).toInt32) % (3 : Int32)) - (1 : Int32))), .val (.int (xb + ((((u1.toUInt32 >>> ((8 : Int32) &&& 31).toUInt32).toInt32) % (3 : Int32)) - (1 : Int32)))), .val (.int (1 : Int32)), .unset] [])) t
    refine XS.iload X122.here hx rfl (hb hby at_229) rfl ?_
    exact k
  refine OFin.go S124 ?_
  obtain ⟨_, T125, Lc125, X125, hQ125, st125⟩ := callQ X122 hx hZ (y := (⟨"com/example/godwit/godwit/model/QualifiedName", "isNameLetter", "(I)Z"⟩ : MethodName)) hown (hw _ (List.mem_of_getElem? (i := 8) rfl)) (hw _ (List.mem_of_getElem? (i := 9) rfl)) (hw _ (List.mem_of_getElem? (i := 10) rfl)) (hw _ (List.mem_of_getElem? (i := 11) rfl)) (by decide) (argsL := [(.int (xb + ((((u1.toUInt32 >>> ((8 : Int32) &&& 31).toUInt32).toInt32) % (3 : Int32)) - (1 : Int32))))]) (rest := []) (rm1 l Z a0 hw [] (xb + ((((u1.toUInt32 >>> ((8 : Int32) &&& 31).toUInt32).toInt32) % (3 : Int32)) - (1 : Int32))) aL h59 n0 Z59 F91 F120) (W := 0) (by decide) (by decide) e122 (g := (mkF m 231 #[.val (.int u0), .val (.int u1), .val (.ref b2), .val (.int idx), .val (.int ((((u1.toUInt32 >>> ((8 : Int32) &&& 31).toUInt32).toInt32) % (3 : Int32)) - (1 : Int32))), .val (.int (xb + ((((u1.toUInt32 >>> ((8 : Int32) &&& 31).toUInt32).toInt32) % (3 : Int32)) - (1 : Int32)))), .val (.int (1 : Int32)), .unset] [(.int (xb + ((((u1.toUInt32 >>> ((8 : Int32) &&& 31).toUInt32).toInt32) % (3 : Int32)) - (1 : Int32))))])) rfl (by rw [hml]; rfl) (lenOf pd_0 rfl) rfl (by show 2 * 0 + _ ≤ _; exact Nat.le_of_eq rfl) (hb hby at_231) (Nat.le_of_ble_eq_true rfl) (Nat.le_of_ble_eq_true rfl)
  obtain ⟨rfl, N125q, e125⟩ := hQ125
  have N125 := Fr.app N122 N125q
  refine OFin.go st125 ?_
  show OFin p e below _ (T125.setTop (mkF m 234 #[.val (.int u0), .val (.int u1), .val (.ref b2), .val (.int idx), .val (.int ((((u1.toUInt32 >>> ((8 : Int32) &&& 31).toUInt32).toInt32) % (3 : Int32)) - (1 : Int32))), .val (.int (xb + ((((u1.toUInt32 >>> ((8 : Int32) &&& 31).toUInt32).toInt32) % (3 : Int32)) - (1 : Int32)))), .val (.int (1 : Int32)), .unset] [(.int (fNL (xb + ((((u1.toUInt32 >>> ((8 : Int32) &&& 31).toUInt32).toInt32) % (3 : Int32)) - (1 : Int32)))))]))
  have S126 : ∀ t, Steps p.tables e below (T125.setTop (mkF m 236 #[.val (.int u0), .val (.int u1), .val (.ref b2), .val (.int idx), .val (.int ((((u1.toUInt32 >>> ((8 : Int32) &&& 31).toUInt32).toInt32) % (3 : Int32)) - (1 : Int32))), .val (.int (xb + ((((u1.toUInt32 >>> ((8 : Int32) &&& 31).toUInt32).toInt32) % (3 : Int32)) - (1 : Int32)))), .val (.int (1 : Int32)), .unset] [(.int (xb + ((((u1.toUInt32 >>> ((8 : Int32) &&& 31).toUInt32).toInt32) % (3 : Int32)) - (1 : Int32)))), (.int (fNL (xb + ((((u1.toUInt32 >>> ((8 : Int32) &&& 31).toUInt32).toInt32) % (3 : Int32)) - (1 : Int32)))))])) t → Steps p.tables e below (T125.setTop (mkF m 234 #[.val (.int u0), .val (.int u1), .val (.ref b2), .val (.int idx), .val (.int ((((u1.toUInt32 >>> ((8 : Int32) &&& 31).toUInt32).toInt32) % (3 : Int32)) - (1 : Int32))), .val (.int (xb + ((((u1.toUInt32 >>> ((8 : Int32) &&& 31).toUInt32).toInt32) % (3 : Int32)) - (1 : Int32)))), .val (.int (1 : Int32)), .unset] [(.int (fNL (xb + ((((u1.toUInt32 >>> ((8 : Int32) &&& 31).toUInt32).toInt32) % (3 : Int32)) - (1 : Int32)))))])) t := by
    intro t k
    show Steps p.tables e below (T125.setTop (mkF m 234 #[.val (.int u0), .val (.int u1), .val (.ref b2), .val (.int idx), .val (.int ((((u1.toUInt32 >>> ((8 : Int32) &&& 31).toUInt32).toInt32) % (3 : Int32)) - (1 : Int32))), .val (.int (xb + ((((u1.toUInt32 >>> ((8 : Int32) &&& 31).toUInt32).toInt32) % (3 : Int32)) - (1 : Int32)))), .val (.int (1 : Int32)), .unset] [(.int (fNL (xb + ((((u1.toUInt32 >>> ((8 : Int32) &&& 31).toUInt32).toInt32) % (3 : Int32)) - (1 : Int32)))))])) t
    refine XS.iload X125.here hx rfl (hb hby at_234) rfl ?_
    exact k
  refine OFin.go S126 ?_
  obtain ⟨_, T127, Lc127, X127, hQ127, st127⟩ := callQ X125 hx hZ (y := (⟨"com/example/godwit/godwit/model/QualifiedNameIsNameLetterPinLaw", "ref", "(I)Z"⟩ : MethodName)) hown (hw _ (List.mem_of_getElem? (i := 12) rfl)) (hw _ (List.mem_of_getElem? (i := 13) rfl)) (hw _ (List.mem_of_getElem? (i := 14) rfl)) (hw _ (List.mem_of_getElem? (i := 15) rfl)) (by decide) (argsL := [(.int (xb + ((((u1.toUInt32 >>> ((8 : Int32) &&& 31).toUInt32).toInt32) % (3 : Int32)) - (1 : Int32))))]) (rest := [(.int (fNL (xb + ((((u1.toUInt32 >>> ((8 : Int32) &&& 31).toUInt32).toInt32) % (3 : Int32)) - (1 : Int32)))))]) (rm2 l Z a0 hw [] (xb + ((((u1.toUInt32 >>> ((8 : Int32) &&& 31).toUInt32).toInt32) % (3 : Int32)) - (1 : Int32))) h59 n0 Z59) (W := 1) (by decide) (by decide) e125 (g := (mkF m 236 #[.val (.int u0), .val (.int u1), .val (.ref b2), .val (.int idx), .val (.int ((((u1.toUInt32 >>> ((8 : Int32) &&& 31).toUInt32).toInt32) % (3 : Int32)) - (1 : Int32))), .val (.int (xb + ((((u1.toUInt32 >>> ((8 : Int32) &&& 31).toUInt32).toInt32) % (3 : Int32)) - (1 : Int32)))), .val (.int (1 : Int32)), .unset] [(.int (xb + ((((u1.toUInt32 >>> ((8 : Int32) &&& 31).toUInt32).toInt32) % (3 : Int32)) - (1 : Int32)))), (.int (fNL (xb + ((((u1.toUInt32 >>> ((8 : Int32) &&& 31).toUInt32).toInt32) % (3 : Int32)) - (1 : Int32)))))])) rfl (by rw [hml]; rfl) (lenOf pd_0 rfl) rfl (by show 2 * 0 + _ ≤ _; exact Nat.le_of_eq rfl) (hb hby at_236) (Nat.le_of_ble_eq_true rfl) (Nat.le_of_ble_eq_true rfl)
  obtain ⟨rfl, N127q, e127⟩ := hQ127
  have N127 := Fr.app N125 N127q
  refine OFin.go st127 ?_
  show OFin p e below _ (T127.setTop (mkF m 239 #[.val (.int u0), .val (.int u1), .val (.ref b2), .val (.int idx), .val (.int ((((u1.toUInt32 >>> ((8 : Int32) &&& 31).toUInt32).toInt32) % (3 : Int32)) - (1 : Int32))), .val (.int (xb + ((((u1.toUInt32 >>> ((8 : Int32) &&& 31).toUInt32).toInt32) % (3 : Int32)) - (1 : Int32)))), .val (.int (1 : Int32)), .unset] [(.int (fRef (xb + ((((u1.toUInt32 >>> ((8 : Int32) &&& 31).toUInt32).toInt32) % (3 : Int32)) - (1 : Int32))))), (.int (fNL (xb + ((((u1.toUInt32 >>> ((8 : Int32) &&& 31).toUInt32).toInt32) % (3 : Int32)) - (1 : Int32)))))]))
  have S128 : ∀ t, Steps p.tables e below (T127.setTop (mkF m 242 #[.val (.int u0), .val (.int u1), .val (.ref b2), .val (.int idx), .val (.int ((((u1.toUInt32 >>> ((8 : Int32) &&& 31).toUInt32).toInt32) % (3 : Int32)) - (1 : Int32))), .val (.int (xb + ((((u1.toUInt32 >>> ((8 : Int32) &&& 31).toUInt32).toInt32) % (3 : Int32)) - (1 : Int32)))), .val (.int (1 : Int32)), .unset] [])) t → Steps p.tables e below (T127.setTop (mkF m 239 #[.val (.int u0), .val (.int u1), .val (.ref b2), .val (.int idx), .val (.int ((((u1.toUInt32 >>> ((8 : Int32) &&& 31).toUInt32).toInt32) % (3 : Int32)) - (1 : Int32))), .val (.int (xb + ((((u1.toUInt32 >>> ((8 : Int32) &&& 31).toUInt32).toInt32) % (3 : Int32)) - (1 : Int32)))), .val (.int (1 : Int32)), .unset] [(.int (fRef (xb + ((((u1.toUInt32 >>> ((8 : Int32) &&& 31).toUInt32).toInt32) % (3 : Int32)) - (1 : Int32))))), (.int (fNL (xb + ((((u1.toUInt32 >>> ((8 : Int32) &&& 31).toUInt32).toInt32) % (3 : Int32)) - (1 : Int32)))))])) t := by
    intro t k
    show Steps p.tables e below (T127.setTop (mkF m 239 #[.val (.int u0), .val (.int u1), .val (.ref b2), .val (.int idx), .val (.int ((((u1.toUInt32 >>> ((8 : Int32) &&& 31).toUInt32).toInt32) % (3 : Int32)) - (1 : Int32))), .val (.int (xb + ((((u1.toUInt32 >>> ((8 : Int32) &&& 31).toUInt32).toInt32) % (3 : Int32)) - (1 : Int32)))), .val (.int (1 : Int32)), .unset] [(.int (fRef (xb + ((((u1.toUInt32 >>> ((8 : Int32) &&& 31).toUInt32).toInt32) % (3 : Int32)) - (1 : Int32))))), (.int (fNL (xb + ((((u1.toUInt32 >>> ((8 : Int32) &&& 31).toUInt32).toInt32) % (3 : Int32)) - (1 : Int32)))))])) t
    refine XS.icmpNo X127.here hx rfl (hb hby at_239) rfl (teq (own_same _)).2 ?_
    exact k
  refine OFin.go S128 ?_
  have S129 : ∀ t, Steps p.tables e below (T127.setTop (mkF m 251 #[.val (.int u0), .val (.int u1), .val (.ref b2), .val (.int idx), .val (.int ((((u1.toUInt32 >>> ((8 : Int32) &&& 31).toUInt32).toInt32) % (3 : Int32)) - (1 : Int32))), .val (.int (xb + ((((u1.toUInt32 >>> ((8 : Int32) &&& 31).toUInt32).toInt32) % (3 : Int32)) - (1 : Int32)))), .val (.int (1 : Int32)), .val (.int (1 : Int32))] [(.int (1 : Int32))])) t → Steps p.tables e below (T127.setTop (mkF m 242 #[.val (.int u0), .val (.int u1), .val (.ref b2), .val (.int idx), .val (.int ((((u1.toUInt32 >>> ((8 : Int32) &&& 31).toUInt32).toInt32) % (3 : Int32)) - (1 : Int32))), .val (.int (xb + ((((u1.toUInt32 >>> ((8 : Int32) &&& 31).toUInt32).toInt32) % (3 : Int32)) - (1 : Int32)))), .val (.int (1 : Int32)), .unset] [])) t := by
    intro t k
    show Steps p.tables e below (T127.setTop (mkF m 242 #[.val (.int u0), .val (.int u1), .val (.ref b2), .val (.int idx), .val (.int ((((u1.toUInt32 >>> ((8 : Int32) &&& 31).toUInt32).toInt32) % (3 : Int32)) - (1 : Int32))), .val (.int (xb + ((((u1.toUInt32 >>> ((8 : Int32) &&& 31).toUInt32).toInt32) % (3 : Int32)) - (1 : Int32)))), .val (.int (1 : Int32)), .unset] [])) t
    refine XS.iconst X127.here hx rfl (hb hby at_242) ?_
    show Steps p.tables e below (T127.setTop (mkF m 243 #[.val (.int u0), .val (.int u1), .val (.ref b2), .val (.int idx), .val (.int ((((u1.toUInt32 >>> ((8 : Int32) &&& 31).toUInt32).toInt32) % (3 : Int32)) - (1 : Int32))), .val (.int (xb + ((((u1.toUInt32 >>> ((8 : Int32) &&& 31).toUInt32).toInt32) % (3 : Int32)) - (1 : Int32)))), .val (.int (1 : Int32)), .unset] [(.int (1 : Int32))])) t
    refine XS.goto X127.here hx rfl (pc0 := 243) (pc' := 247) rfl (hb hby at_243) (by decide) (by decide) ?_
    show Steps p.tables e below (T127.setTop (mkF m 247 #[.val (.int u0), .val (.int u1), .val (.ref b2), .val (.int idx), .val (.int ((((u1.toUInt32 >>> ((8 : Int32) &&& 31).toUInt32).toInt32) % (3 : Int32)) - (1 : Int32))), .val (.int (xb + ((((u1.toUInt32 >>> ((8 : Int32) &&& 31).toUInt32).toInt32) % (3 : Int32)) - (1 : Int32)))), .val (.int (1 : Int32)), .unset] [(.int (1 : Int32))])) t
    refine XS.istore X127.here hx rfl (hb hby at_247) rfl (l' := #[.val (.int u0), .val (.int u1), .val (.ref b2), .val (.int idx), .val (.int ((((u1.toUInt32 >>> ((8 : Int32) &&& 31).toUInt32).toInt32) % (3 : Int32)) - (1 : Int32))), .val (.int (xb + ((((u1.toUInt32 >>> ((8 : Int32) &&& 31).toUInt32).toInt32) % (3 : Int32)) - (1 : Int32)))), .val (.int (1 : Int32)), .val (.int (1 : Int32))]) rfl ?_
    show Steps p.tables e below (T127.setTop (mkF m 249 #[.val (.int u0), .val (.int u1), .val (.ref b2), .val (.int idx), .val (.int ((((u1.toUInt32 >>> ((8 : Int32) &&& 31).toUInt32).toInt32) % (3 : Int32)) - (1 : Int32))), .val (.int (xb + ((((u1.toUInt32 >>> ((8 : Int32) &&& 31).toUInt32).toInt32) % (3 : Int32)) - (1 : Int32)))), .val (.int (1 : Int32)), .val (.int (1 : Int32))] [])) t
    refine XS.iload X127.here hx rfl (hb hby at_249) rfl ?_
    exact k
  refine OFin.go S129 ?_
  have S130 : ∀ t, Steps p.tables e below (T127.setTop (mkF m 254 #[.val (.int u0), .val (.int u1), .val (.ref b2), .val (.int idx), .val (.int ((((u1.toUInt32 >>> ((8 : Int32) &&& 31).toUInt32).toInt32) % (3 : Int32)) - (1 : Int32))), .val (.int (xb + ((((u1.toUInt32 >>> ((8 : Int32) &&& 31).toUInt32).toInt32) % (3 : Int32)) - (1 : Int32)))), .val (.int (1 : Int32)), .val (.int (1 : Int32))] [])) t → Steps p.tables e below (T127.setTop (mkF m 251 #[.val (.int u0), .val (.int u1), .val (.ref b2), .val (.int idx), .val (.int ((((u1.toUInt32 >>> ((8 : Int32) &&& 31).toUInt32).toInt32) % (3 : Int32)) - (1 : Int32))), .val (.int (xb + ((((u1.toUInt32 >>> ((8 : Int32) &&& 31).toUInt32).toInt32) % (3 : Int32)) - (1 : Int32)))), .val (.int (1 : Int32)), .val (.int (1 : Int32))] [(.int (1 : Int32))])) t := by
    intro t k
    show Steps p.tables e below (T127.setTop (mkF m 251 #[.val (.int u0), .val (.int u1), .val (.ref b2), .val (.int idx), .val (.int ((((u1.toUInt32 >>> ((8 : Int32) &&& 31).toUInt32).toInt32) % (3 : Int32)) - (1 : Int32))), .val (.int (xb + ((((u1.toUInt32 >>> ((8 : Int32) &&& 31).toUInt32).toInt32) % (3 : Int32)) - (1 : Int32)))), .val (.int (1 : Int32)), .val (.int (1 : Int32))] [(.int (1 : Int32))])) t
    refine XS.ifNo X127.here hx rfl (hb hby at_251) rfl ((if0 _ _).trans (feq (by decide)).1) ?_
    exact k
  refine OFin.go S130 ?_
  have S131 : ∀ t, Steps p.tables e below (T127.setTop (mkF m 256 #[.val (.int u0), .val (.int u1), .val (.ref b2), .val (.int idx), .val (.int ((((u1.toUInt32 >>> ((8 : Int32) &&& 31).toUInt32).toInt32) % (3 : Int32)) - (1 : Int32))), .val (.int (xb + ((((u1.toUInt32 >>> ((8 : Int32) &&& 31).toUInt32).toInt32) % (3 : Int32)) - (1 : Int32)))), .val (.int (1 : Int32)), .val (.int (1 : Int32))] [(.int (1 : Int32))])) t → Steps p.tables e below (T127.setTop (mkF m 254 #[.val (.int u0), .val (.int u1), .val (.ref b2), .val (.int idx), .val (.int ((((u1.toUInt32 >>> ((8 : Int32) &&& 31).toUInt32).toInt32) % (3 : Int32)) - (1 : Int32))), .val (.int (xb + ((((u1.toUInt32 >>> ((8 : Int32) &&& 31).toUInt32).toInt32) % (3 : Int32)) - (1 : Int32)))), .val (.int (1 : Int32)), .val (.int (1 : Int32))] [])) t := by
    intro t k
    show Steps p.tables e below (T127.setTop (mkF m 254 #[.val (.int u0), .val (.int u1), .val (.ref b2), .val (.int idx), .val (.int ((((u1.toUInt32 >>> ((8 : Int32) &&& 31).toUInt32).toInt32) % (3 : Int32)) - (1 : Int32))), .val (.int (xb + ((((u1.toUInt32 >>> ((8 : Int32) &&& 31).toUInt32).toInt32) % (3 : Int32)) - (1 : Int32)))), .val (.int (1 : Int32)), .val (.int (1 : Int32))] [])) t
    refine XS.iload X127.here hx rfl (hb hby at_254) rfl ?_
    exact k
  refine OFin.go S131 ?_
  have S132 : ∀ t, Steps p.tables e below (T127.setTop (mkF m 259 #[.val (.int u0), .val (.int u1), .val (.ref b2), .val (.int idx), .val (.int ((((u1.toUInt32 >>> ((8 : Int32) &&& 31).toUInt32).toInt32) % (3 : Int32)) - (1 : Int32))), .val (.int (xb + ((((u1.toUInt32 >>> ((8 : Int32) &&& 31).toUInt32).toInt32) % (3 : Int32)) - (1 : Int32)))), .val (.int (1 : Int32)), .val (.int (1 : Int32))] [])) t → Steps p.tables e below (T127.setTop (mkF m 256 #[.val (.int u0), .val (.int u1), .val (.ref b2), .val (.int idx), .val (.int ((((u1.toUInt32 >>> ((8 : Int32) &&& 31).toUInt32).toInt32) % (3 : Int32)) - (1 : Int32))), .val (.int (xb + ((((u1.toUInt32 >>> ((8 : Int32) &&& 31).toUInt32).toInt32) % (3 : Int32)) - (1 : Int32)))), .val (.int (1 : Int32)), .val (.int (1 : Int32))] [(.int (1 : Int32))])) t := by
    intro t k
    show Steps p.tables e below (T127.setTop (mkF m 256 #[.val (.int u0), .val (.int u1), .val (.ref b2), .val (.int idx), .val (.int ((((u1.toUInt32 >>> ((8 : Int32) &&& 31).toUInt32).toInt32) % (3 : Int32)) - (1 : Int32))), .val (.int (xb + ((((u1.toUInt32 >>> ((8 : Int32) &&& 31).toUInt32).toInt32) % (3 : Int32)) - (1 : Int32)))), .val (.int (1 : Int32)), .val (.int (1 : Int32))] [(.int (1 : Int32))])) t
    refine XS.ifNo X127.here hx rfl (hb hby at_256) rfl ((if0 _ _).trans (feq (by decide)).1) ?_
    exact k
  refine OFin.go S132 ?_
  have S133 : ∀ t, Steps p.tables e below (T127.setTop (mkF m 264 #[.val (.int u0), .val (.int u1), .val (.ref b2), .val (.int idx), .val (.int ((((u1.toUInt32 >>> ((8 : Int32) &&& 31).toUInt32).toInt32) % (3 : Int32)) - (1 : Int32))), .val (.int (xb + ((((u1.toUInt32 >>> ((8 : Int32) &&& 31).toUInt32).toInt32) % (3 : Int32)) - (1 : Int32)))), .val (.int (1 : Int32)), .val (.int (1 : Int32))] [(.int (1 : Int32))])) t → Steps p.tables e below (T127.setTop (mkF m 259 #[.val (.int u0), .val (.int u1), .val (.ref b2), .val (.int idx), .val (.int ((((u1.toUInt32 >>> ((8 : Int32) &&& 31).toUInt32).toInt32) % (3 : Int32)) - (1 : Int32))), .val (.int (xb + ((((u1.toUInt32 >>> ((8 : Int32) &&& 31).toUInt32).toInt32) % (3 : Int32)) - (1 : Int32)))), .val (.int (1 : Int32)), .val (.int (1 : Int32))] [])) t := by
    intro t k
    show Steps p.tables e below (T127.setTop (mkF m 259 #[.val (.int u0), .val (.int u1), .val (.ref b2), .val (.int idx), .val (.int ((((u1.toUInt32 >>> ((8 : Int32) &&& 31).toUInt32).toInt32) % (3 : Int32)) - (1 : Int32))), .val (.int (xb + ((((u1.toUInt32 >>> ((8 : Int32) &&& 31).toUInt32).toInt32) % (3 : Int32)) - (1 : Int32)))), .val (.int (1 : Int32)), .val (.int (1 : Int32))] [])) t
    refine XS.iconst X127.here hx rfl (hb hby at_259) ?_
    show Steps p.tables e below (T127.setTop (mkF m 260 #[.val (.int u0), .val (.int u1), .val (.ref b2), .val (.int idx), .val (.int ((((u1.toUInt32 >>> ((8 : Int32) &&& 31).toUInt32).toInt32) % (3 : Int32)) - (1 : Int32))), .val (.int (xb + ((((u1.toUInt32 >>> ((8 : Int32) &&& 31).toUInt32).toInt32) % (3 : Int32)) - (1 : Int32)))), .val (.int (1 : Int32)), .val (.int (1 : Int32))] [(.int (1 : Int32))])) t
    refine XS.goto X127.here hx rfl (pc0 := 260) (pc' := 264) rfl (hb hby at_260) (by decide) (by decide) ?_
    exact k
  refine OFin.go S133 ?_
  exact finZ X127 hx Bd.notSynchronized (t := .boolean) Bd.returns (by simp) (hb hby at_264) rfl (by decide) (by decide) (⟨congrArg (fun z => some (Value.int z)) (rfl : (1 : Int32) = (1 : Int32)), N127⟩)
theorem own_len {Z : State} {args : Array Value} {t : Term} {a : Addr} {c : Cell} (ht : t.eval args Z none [] Z = some (.ref a)) (ha : Z.arrayAt? a = some c) (h : (Term.length t).eval args Z none [] Z = some (.int (24 : Int32))) : c.slots.size = 24 := by
  simp only [Term.eval, ht, ha, Option.bind_eq_bind, Option.bind_some] at h
  split at h
  · rename_i hl
    have h2 : c.slots.size.toInt32 = 24 := by simpa using h
    have h3 := len_toInt hl
    rw [h2] at h3
    simp only [Int32.reduceToInt] at h3
    omega
  · cases h
set_option maxRecDepth 65536 in
set_option maxHeartbeats 40000000 in
theorem comes_1 {Post : Tables → Env → Array Value → State → Outcome → State → Prop} (hpost : ∀ tb e args s v u, (limb_1_1.after args s (.returned v) u = true ∧ limb_1_2.after args s (.returned v) u = true ∧ True) → FrameEnd s (.returned v) u (Jvm.fieldLocs frame_1_writes args s ++ Jvm.arrayLocs frame_1_arrays args s ++ Jvm.staticLocs frame_1_statics s) 16 128 → Post tb e args s (.returned v) u) :
    ArmFor flags0 classFile x code maxLocals ret World_1 tables_1 room_1 Calls_1 rest_1 Pre_1 Post := by
  intro l hfl _ _ p e ha hc hk s m args below hf hA hF happ hP
  obtain ⟨hcalls, hrest, hpre⟩ := hP
  obtain ⟨-, -, -, hnamed, -, -, -, hat⟩ := (Spec.applies_iff hf).mp happ
  obtain ⟨hg, hn⟩ := and_e (Cond.before_iff.mp (show (Jvm.Cond.and given_1 narrow_1).before args s = true from hpre))
  obtain ⟨gg2, gg3⟩ := and_e hg
  obtain ⟨gg4, gg5⟩ := and_e gg3
  obtain ⟨w0, w1, rfl⟩ : ∃ w0 w1 : Value, args = #[w0, w1] := by
    have hs : args.size = 2 := by simpa [Cond.value, given_1] using gg2
    obtain ⟨L⟩ := args
    match L, hs with
    | [w0, w1], _ => exact ⟨w0, w1, rfl⟩
  have hw := fun d (hd : d ∈ tables_1) => atoms_spec (ws := Jvm.Cond.code x code maxLocals ret :: tables_1) hat d (List.mem_cons_of_mem _ hd)
  have hfit : Fit s := fun {y c} hc i hi => by
    obtain ⟨ha, rfl⟩ := Array.getElem?_eq_some_iff.mp hc
    have q := List.all_eq_true.mp ((Array.all_eq_true_iff_forall_mem.mp hF) _ (Array.getElem_mem ha)) i (List.mem_range.mpr hi)
    simpa [Array.getElem?_eq_getElem hi] using q
  obtain ⟨i0, ei0⟩ := is_v gg4
  obtain rfl : w0 = (.int i0) := Option.some.inj ei0
  obtain ⟨i1, ei1⟩ := is_v gg5
  obtain rfl : w1 = (.int i1) := Option.some.inj ei1
  obtain ⟨m0, hn⟩ := and_e hn
  obtain ⟨m1, hn⟩ := and_e hn
  obtain ⟨m2, hn⟩ := and_e hn
  obtain ⟨m3, hn⟩ := and_e hn
  obtain ⟨m4, hn⟩ := and_e hn
  obtain ⟨m5, hn⟩ := and_e hn
  obtain ⟨m6, hn⟩ := and_e hn
  obtain ⟨m7, hn⟩ := and_e hn
  obtain ⟨m8, hn⟩ := and_e hn
  obtain ⟨m9, hn⟩ := and_e hn
  obtain ⟨m10, hn⟩ := and_e hn
  obtain ⟨m11, hn⟩ := and_e hn
  obtain ⟨m12, hn⟩ := and_e hn
  obtain ⟨m13, hn⟩ := and_e hn
  obtain ⟨m14, hn⟩ := and_e hn
  obtain ⟨m15, hn⟩ := and_e hn
  obtain ⟨m16, hn⟩ := and_e hn
  obtain ⟨m17, hn⟩ := and_e hn
  obtain ⟨m18, hn⟩ := and_e hn
  obtain ⟨m19, hn⟩ := and_e hn
  obtain ⟨m20, hn⟩ := and_e hn
  obtain ⟨m21, hn⟩ := and_e hn
  obtain ⟨m22, hn⟩ := and_e hn
  obtain ⟨m23, hn⟩ := and_e hn
  obtain ⟨m24, hn⟩ := and_e hn
  have m25 := hn
  obtain ⟨aL, evL⟩ := arr_v m0
  obtain ⟨cL, AL⟩ := Arr.start evL m0
  have SL := Sta.start evL (Or.inr ⟨(hw _ (List.mem_of_getElem? (i := 10) rfl)), (hw _ (List.mem_of_getElem? (i := 17) rfl))⟩)
  have hL := own_len evL (AL.fin (State.Warmed39.refl s).alike) (eqv_i (Term.int_eval _) m1)
  have VL : Ara s s.heap aL .int 24 (fun i => .int (ltr i)) := by
    refine ⟨cL, AL, hL, by decide, fun i hi => ?_⟩
    match i, hi with
    | 0, _ => exact (elem_in (eqv_i (Term.int_eval _) m2) evL (Term.int_eval _) AL.1).2
    | 1, _ => exact (elem_in (eqv_i (Term.int_eval _) m3) evL (Term.int_eval _) AL.1).2
    | 2, _ => exact (elem_in (eqv_i (Term.int_eval _) m4) evL (Term.int_eval _) AL.1).2
    | 3, _ => exact (elem_in (eqv_i (Term.int_eval _) m5) evL (Term.int_eval _) AL.1).2
    | 4, _ => exact (elem_in (eqv_i (Term.int_eval _) m6) evL (Term.int_eval _) AL.1).2
    | 5, _ => exact (elem_in (eqv_i (Term.int_eval _) m7) evL (Term.int_eval _) AL.1).2
    | 6, _ => exact (elem_in (eqv_i (Term.int_eval _) m8) evL (Term.int_eval _) AL.1).2
    | 7, _ => exact (elem_in (eqv_i (Term.int_eval _) m9) evL (Term.int_eval _) AL.1).2
    | 8, _ => exact (elem_in (eqv_i (Term.int_eval _) m10) evL (Term.int_eval _) AL.1).2
    | 9, _ => exact (elem_in (eqv_i (Term.int_eval _) m11) evL (Term.int_eval _) AL.1).2
    | 10, _ => exact (elem_in (eqv_i (Term.int_eval _) m12) evL (Term.int_eval _) AL.1).2
    | 11, _ => exact (elem_in (eqv_i (Term.int_eval _) m13) evL (Term.int_eval _) AL.1).2
    | 12, _ => exact (elem_in (eqv_i (Term.int_eval _) m14) evL (Term.int_eval _) AL.1).2
    | 13, _ => exact (elem_in (eqv_i (Term.int_eval _) m15) evL (Term.int_eval _) AL.1).2
    | 14, _ => exact (elem_in (eqv_i (Term.int_eval _) m16) evL (Term.int_eval _) AL.1).2
    | 15, _ => exact (elem_in (eqv_i (Term.int_eval _) m17) evL (Term.int_eval _) AL.1).2
    | 16, _ => exact (elem_in (eqv_i (Term.int_eval _) m18) evL (Term.int_eval _) AL.1).2
    | 17, _ => exact (elem_in (eqv_i (Term.int_eval _) m19) evL (Term.int_eval _) AL.1).2
    | 18, _ => exact (elem_in (eqv_i (Term.int_eval _) m20) evL (Term.int_eval _) AL.1).2
    | 19, _ => exact (elem_in (eqv_i (Term.int_eval _) m21) evL (Term.int_eval _) AL.1).2
    | 20, _ => exact (elem_in (eqv_i (Term.int_eval _) m22) evL (Term.int_eval _) AL.1).2
    | 21, _ => exact (elem_in (eqv_i (Term.int_eval _) m23) evL (Term.int_eval _) AL.1).2
    | 22, _ => exact (elem_in (eqv_i (Term.int_eval _) m24) evL (Term.int_eval _) AL.1).2
    | 23, _ => exact (elem_in (eqv_i (Term.int_eval _) m25) evL (Term.int_eval _) AL.1).2
    | k + 24, hk => exact absurd hk (by omega)
  obtain ⟨n, o, h1, h2, h3, _, L, rfl, ⟨rfl, N⟩, hq⟩ := rm0 l s _ hw tables_1 i0 i1 aL s.heap s.heap.size (Nat.le_refl _) SL VL p e ha hc hk s m _ below hf ((Spec.applies_iff_loose hf).mp happ).1 ⟨rfl, State.Warmed39.refl s, rfl⟩ trivial
  refine ⟨n, _, h1, h2, h3, hpost _ _ _ _ _ _ ⟨Cond.after_iff.mpr rfl, Cond.after_iff.mpr (eq_i res_at (Term.int_eval (1)) rfl), trivial⟩ ⟨hq.1, hq.2.1, (hq.2.2.sift fun y hy => Or.inr (N y hy)).mono (by decide) (by decide)⟩⟩
theorem main_1_1 : Claimed_1_1 := comes_1 fun _ _ _ _ _ _ h hF => ⟨h.1, hF⟩
theorem main_1_2 : Claimed_1_2 := comes_1 fun _ _ _ _ _ _ h hF => ⟨h.2.1, hF⟩
end Jvm.Pilot.@@N@@
namespace Jvm.Pilot.@@N@@
open Jvm Jvm.ClassFile Sem Op Lib Jvm.Free Jvm.Stand Jvm.Pilot.@@N@@.Jvm.D
/-! MADE BY PROGRAM (witnessworld.py) out of the Statement's table words and the real class files: 10 classes; the members and pool entries that the words name. The judged class is class 1, her method 2. -/
namespace start1
open Jvm.ClassFile
def u (s : String) : CpInfo := .utf8 (stringToUtf16 s)
/-- a pool by its gaps: so many unusable entries, then the entry; so many at the end -/
def gap : Nat → List CpInfo → List CpInfo
  | 0, r => r
  | n + 1, r => .unusable :: gap n r
def poolList (es : List (Nat × CpInfo)) (last : Nat) : List CpInfo := es.foldr (fun e r => gap e.1 (e.2 :: r)) (gap last [])
def pool (es : List (Nat × CpInfo)) (last : Nat) : Array CpInfo := ⟨poolList es last⟩
def fileOf (pool : Array CpInfo) (this : Nat) (attrs : Array Attribute := #[]) (ms : Array MethodInfo := #[]) (fl : Nat := 33) (sup : Nat := 0) (ifs : Array Nat := #[]) (fds : Array FieldInfo := #[]) : ClassFile where
  minorVersion := 0
  majorVersion := 65
  constantPool := pool
  accessFlags := fl
  thisClass := this
  superClass := sup
  interfaces := ifs
  fields := fds
  methods := ms
  attributes := attrs
def plain (name : String) (sup : Option ClassId) : Class where
  name := name
  kind := .ordinary
  loader := none
  accessFlags := 33
  super := sup
  interfaces := #[]
  cf := none
  fields := #[]
  methods := #[]
  instanceTypes := #[]
  staticTypes := #[]
  resolved := #[]
  callSites := []
  init := .initialized
  statics := none
  mirror := none

def pool0 : Array CpInfo := pool [(5, u "<init>"), (0, u "()V"), (1, .class_ 10), (1, u "java/lang/Object")] 113

def k0m0 : Method := { name := "<init>", desc := "()V", sig := { parameters := [], returnType := none }, accessFlags := 1, code := none }
/-- java/lang/Object -/
def k0 : Class := { plain "java/lang/Object" none with
  accessFlags := 33
  interfaces := #[]
  cf := some (fileOf pool0 8 #[] #[{ accessFlags := 1, nameIndex := 5, descriptorIndex := 6, attributes := #[] }] 33 0 #[] #[])
  fields := #[]
  methods := #[k0m0]
  instanceTypes := #[]
  staticTypes := #[]
  resolved := Array.replicate 124 none
  statics := none }

def pool1 : Array CpInfo := pool [(2, .class_ 4), (1, u "java/lang/Object"), (0, u "<init>"), (0, u "()V"), (0, .integer 55295), (0, .integer 63744), (0, .integer 64975), (0, .integer 65008), (0, .integer 65533), (0, .integer 65536), (0, .integer 983039), (0, .methodref 15 16), (0, .class_ 17), (0, .nameAndType 18 19), (0, u "com/example/godwit/godwit/model/QualifiedName"), (0, u "isNameLetter"), (0, u "(I)Z"), (0, .methodref 21 22), (0, .class_ 23), (0, .nameAndType 24 19), (0, u "com/example/godwit/godwit/model/QualifiedNameIsNameLetterPinLaw"), (0, u "ref"), (3, u "law"), (0, u "(II)Z")] 4

def k1m0 : Method := { name := "<init>", desc := "()V", sig := { parameters := [], returnType := none }, accessFlags := 1, code := none }
def k1c1 : Code := { maxStack := 2, maxLocals := 1, code := method_2_code, exceptionTable := #[], attributes := #[] }
def k1m1 : Method := { name := "ref", desc := "(I)Z", sig := { parameters := [.int], returnType := some .boolean }, accessFlags := 10, code := some k1c1 }
def k1c2 : Code := { maxStack := 4, maxLocals := 8, code := code, exceptionTable := #[], attributes := #[] }
def k1m2 : Method := { name := "law", desc := "(II)Z", sig := { parameters := [.int, .int], returnType := some .boolean }, accessFlags := 9, code := some k1c2 }
/-- com/example/godwit/godwit/model/QualifiedNameIsNameLetterPinLaw -/
def k1 : Class := { plain "com/example/godwit/godwit/model/QualifiedNameIsNameLetterPinLaw" (some 0) with
  accessFlags := 49
  interfaces := #[]
  cf := some (fileOf pool1 21 #[] #[{ accessFlags := 1, nameIndex := 5, descriptorIndex := 6, attributes := #[] }, { accessFlags := 10, nameIndex := 24, descriptorIndex := 19, attributes := #[] }, { accessFlags := 9, nameIndex := 28, descriptorIndex := 29, attributes := #[] }] 49 2 #[] #[])
  fields := #[]
  methods := #[k1m0, k1m1, k1m2]
  instanceTypes := #[]
  staticTypes := #[]
  resolved := Array.replicate 34 none
  statics := none }

def pool2 : Array CpInfo := pool [(2, .class_ 4), (1, u "java/lang/Object"), (0, u "<init>"), (0, u "()V"), (0, .class_ 8), (0, u "java/lang/Record")] 13

def k2m0 : Method := { name := "<init>", desc := "()V", sig := { parameters := [], returnType := none }, accessFlags := 4, code := none }
/-- java/lang/Record -/
def k2 : Class := { plain "java/lang/Record" (some 0) with
  accessFlags := 1057
  interfaces := #[]
  cf := some (fileOf pool2 7 #[] #[{ accessFlags := 4, nameIndex := 5, descriptorIndex := 6, attributes := #[] }] 1057 2 #[] #[])
  fields := #[]
  methods := #[k2m0]
  instanceTypes := #[]
  staticTypes := #[]
  resolved := Array.replicate 22 none
  statics := none }

def pool3 : Array CpInfo := pool [(2, .class_ 4), (1, u "java/lang/Record"), (3, u "prefix"), (7, u "namespace"), (1, u "localPart"), (1, .class_ 22), (1, u "com/example/godwit/godwit/model/QualifiedName"), (19, u "Ljava/lang/String;"), (23, .fieldref 20 67), (0, .nameAndType 68 69), (0, u "LETTERS"), (0, u "[I"), (2, u "isNameLetter"), (0, u "(I)Z"), (33, u "PROV_NAMESPACE"), (1, u "XSD_NAMESPACE"), (0, u "XML_SCHEMA_NAMESPACE")] 48

def k3c0 : Code := { maxStack := 4, maxLocals := 2, code := prog_33_method_5_code, exceptionTable := #[], attributes := #[] }
def k3m0 : Method := { name := "isNameLetter", desc := "(I)Z", sig := { parameters := [.int], returnType := some .boolean }, accessFlags := 9, code := some k3c0 }
/-- com/example/godwit/godwit/model/QualifiedName -/
def k3 : Class := { plain "com/example/godwit/godwit/model/QualifiedName" (some 2) with
  accessFlags := 49
  interfaces := #[]
  cf := some (fileOf pool3 20 #[] #[{ accessFlags := 9, nameIndex := 72, descriptorIndex := 73, attributes := #[] }] 49 2 #[] #[{ accessFlags := 18, nameIndex := 8, descriptorIndex := 42, attributes := #[] }, { accessFlags := 18, nameIndex := 16, descriptorIndex := 42, attributes := #[] }, { accessFlags := 18, nameIndex := 18, descriptorIndex := 42, attributes := #[] }, { accessFlags := 25, nameIndex := 107, descriptorIndex := 42, attributes := #[] }, { accessFlags := 25, nameIndex := 109, descriptorIndex := 42, attributes := #[] }, { accessFlags := 25, nameIndex := 110, descriptorIndex := 42, attributes := #[] }, { accessFlags := 26, nameIndex := 68, descriptorIndex := 69, attributes := #[] }])
  fields := #[{ name := "prefix", type := (.object "java/lang/String"), accessFlags := 18, slot := 0, constantValue := 0 }, { name := "namespace", type := (.object "java/lang/String"), accessFlags := 18, slot := 1, constantValue := 0 }, { name := "localPart", type := (.object "java/lang/String"), accessFlags := 18, slot := 2, constantValue := 0 }, { name := "PROV_NAMESPACE", type := (.object "java/lang/String"), accessFlags := 25, slot := 0, constantValue := 0 }, { name := "XSD_NAMESPACE", type := (.object "java/lang/String"), accessFlags := 25, slot := 1, constantValue := 0 }, { name := "XML_SCHEMA_NAMESPACE", type := (.object "java/lang/String"), accessFlags := 25, slot := 2, constantValue := 0 }, { name := "LETTERS", type := (.array .int), accessFlags := 26, slot := 3, constantValue := 0 }]
  methods := #[k3m0]
  instanceTypes := #[(.object "java/lang/String"), (.object "java/lang/String"), (.object "java/lang/String")]
  staticTypes := #[(.object "java/lang/String"), (.object "java/lang/String"), (.object "java/lang/String"), (.array .int)]
  resolved := Array.replicate 159 none
  statics := some 0 }

def pool4 : Array CpInfo := pool [(1, u "java/lang/Cloneable"), (0, .class_ 1), (0, u "java/lang/Object"), (0, .class_ 3)] 3

/-- java/lang/Cloneable -/
def k4 : Class := { plain "java/lang/Cloneable" (some 0) with
  accessFlags := 1537
  interfaces := #[]
  cf := some (fileOf pool4 2 #[] #[] 1537 4 #[] #[])
  fields := #[]
  methods := #[]
  instanceTypes := #[]
  staticTypes := #[]
  resolved := Array.replicate 8 none
  statics := none }

def pool5 : Array CpInfo := pool [(1, u "java/io/Serializable"), (0, .class_ 1), (0, u "java/lang/Object"), (0, .class_ 3)] 3

/-- java/io/Serializable -/
def k5 : Class := { plain "java/io/Serializable" (some 0) with
  accessFlags := 1537
  interfaces := #[]
  cf := some (fileOf pool5 2 #[] #[] 1537 4 #[] #[])
  fields := #[]
  methods := #[]
  instanceTypes := #[]
  staticTypes := #[]
  resolved := Array.replicate 8 none
  statics := none }

/-- the primitive byte -/
def k6 : Class := { plain "byte" none with kind := .primitive 'B', accessFlags := 0x411 }
/-- [B -/
def k7 : Class := { plain "[B" (some 0) with kind := .array 6 .byte, interfaces := #[4, 5], accessFlags := 1041 }

/-- the primitive int -/
def k8 : Class := { plain "int" none with kind := .primitive 'I', accessFlags := 0x411 }
/-- [I -/
def k9 : Class := { plain "[I" (some 0) with kind := .array 8 .int, interfaces := #[4, 5], accessFlags := 1041 }

def heap : Heap := #[{ cls := 3, slots := #[.null, .null, .null, .ref 1], vm := .statics 3 },
  { cls := 9, slots := #[.int 192, .int 214, .int 216, .int 246, .int 248, .int 767, .int 880, .int 893, .int 895, .int 8191, .int 8204, .int 8205, .int 8304, .int 8591, .int 11264, .int 12271, .int 12289, .int 55295, .int 63744, .int 64975, .int 65008, .int 65533, .int 65536, .int 983039], vm := .none }]
def classes : Array Class := #[k0, k1, k2, k3, k4, k5, k6, k7, k8, k9]
def interned : List (Array UInt16 × Addr) := []
def slotsUsed : Nat := 28
def theMethod : MethodId := ⟨1, 2⟩
def args0 : Array Value := #[.int 1, .int 2]
def aboutOver (below : List Frame) : State where
  vm := { classes := classes, interned := interned.toArray }
  heap := heap
  slotsUsed := slotsUsed
  threads := #[{ frames := .invoking theMethod args0 :: below }]
def below0 : List Frame := [.native { method := ⟨0, 0⟩, args := #[] }]
def about1 : State := aboutOver below0
def p0 : Program := .bare "" "" ""
def e0 : Env := launch0.env 0 0 0
theorem w_frames : about1.frames = Frame.invoking theMethod args0 :: below0 := rfl
set_option maxRecDepth 65536 in
theorem w_args : argsFit about1.vm theMethod args0 = true := by decide +kernel
set_option maxRecDepth 65536 in
theorem w_heap : heapFits about1 = true := by decide +kernel
set_option maxRecDepth 65536 in
theorem w_runnable : about1.curStatus? = some .runnable := by decide +kernel
set_option maxRecDepth 65536 in
theorem w_alone : about1.alone = true := by decide +kernel
set_option maxRecDepth 65536 in
theorem w_named : about1.methodNamed? x = some theMethod := by decide +kernel
set_option maxRecDepth 65536 in
theorem w_hears : about1.hears theMethod below0 = true := by decide +kernel
set_option maxRecDepth 65536 in
theorem w_ripe : about1.ripe theMethod args0 below0 = true := by decide +kernel
theorem w_running : about1.status = .running := rfl
set_option maxRecDepth 65536 in
theorem w_room : about1.hasRoom e0.platform room_1 = true :=
  launch0.hasRoom_least _ room_1 (by decide +kernel) (by decide +kernel) (by decide +kernel) (by decide +kernel) (by decide +kernel) (by decide +kernel)
theorem allAtoms_all (ts : List Jvm.Cond) (a : Array Jvm.Value) (st : Jvm.State) : (allAtoms ts).before a st = ts.all (fun c => c.before a st) := by
  induction ts with
  | nil => rfl
  | cons c t ih =>
    show (Jvm.Cond.and c (allAtoms t)).before a st = _
    rw [Jvm.Cond.before_and, ih, List.all_cons]
def words1 : List Jvm.Cond := Jvm.Cond.code x code maxLocals ret :: tables_1
/-- a 'code' word, met by the world's own term for the bytes: nothing is compared byte by byte -/
theorem code_word {y : MethodName} {bytes : ByteArray} {mx : Nat} {rt : Option FieldType} {a : Array Value} {s : State} {m : MethodId} {meth : Method} {c : Code} (h1 : s.methodNamed? y = some m) (h2 : s.vm.method? m = some meth) (h3 : meth.code = some c) (h4 : c.code = bytes)
    (h5 : (c.maxLocals == mx && c.exceptionTable.isEmpty && decide (c.maxStack ≤ mostOperands) && decide (meth.sig.returnType = rt) && !meth.locks && decide (parseMethodDescriptor y.desc = some meth.sig)) = true) : (Jvm.Cond.code y bytes mx rt).before a s = true := by
  simp only [Bool.and_eq_true, beq_iff_eq, Bool.not_eq_true', decide_eq_true_eq] at h5
  obtain ⟨⟨⟨⟨⟨g1, g2⟩, g3⟩, g4⟩, g5⟩, g6⟩ := h5
  simp [Cond.before, Cond.holds, Cond.value, h1, h2, h3, h4, g1, g2, g3, g4, g5, g6]
def isCode : Jvm.Cond → Bool
  | .code _ _ _ _ => true
  | _ => false
theorem all_split {L : List Jvm.Cond} {P : Jvm.Cond → Bool} (h1 : L.all (fun c => isCode c || P c) = true) (h2 : ∀ c ∈ L.filter isCode, P c = true) : L.all P = true := by
  refine List.all_eq_true.mpr fun c hc => ?_
  have h := List.all_eq_true.mp h1 c hc
  rcases Bool.eq_false_or_eq_true (isCode c) with hi | hi
  · exact h2 c (List.mem_filter.mpr ⟨hc, hi⟩)
  · simpa [hi] using h
set_option maxRecDepth 65536 in
theorem w_c0 : (Jvm.Cond.code x code maxLocals ret).before args0 about1 = true := code_word (m := ⟨1, 2⟩) (meth := k1m2) (c := k1c2) (by decide +kernel) rfl rfl rfl (by decide +kernel)
set_option maxRecDepth 65536 in
theorem w_c1 : (Jvm.Cond.code ({ cls := "com/example/godwit/godwit/model/QualifiedName", name := "isNameLetter", desc := "(I)Z" } : Jvm.MethodName) prog_33_method_5_code (2 : Nat) (Option.some Jvm.ClassFile.FieldType.boolean)).before args0 about1 = true := code_word (m := ⟨3, 0⟩) (meth := k3m0) (c := k3c0) (by decide +kernel) rfl rfl rfl (by decide +kernel)
set_option maxRecDepth 65536 in
theorem w_c2 : (Jvm.Cond.code ({ cls := "com/example/godwit/godwit/model/QualifiedNameIsNameLetterPinLaw", name := "ref", desc := "(I)Z" } : Jvm.MethodName) method_2_code (1 : Nat) (Option.some Jvm.ClassFile.FieldType.boolean)).before args0 about1 = true := code_word (m := ⟨1, 1⟩) (meth := k1m1) (c := k1c1) (by decide +kernel) rfl rfl rfl (by decide +kernel)
def codes1 : List Jvm.Cond := [Jvm.Cond.code x code maxLocals ret, Jvm.Cond.code ({ cls := "com/example/godwit/godwit/model/QualifiedName", name := "isNameLetter", desc := "(I)Z" } : Jvm.MethodName) prog_33_method_5_code (2 : Nat) (Option.some Jvm.ClassFile.FieldType.boolean), Jvm.Cond.code ({ cls := "com/example/godwit/godwit/model/QualifiedNameIsNameLetterPinLaw", name := "ref", desc := "(I)Z" } : Jvm.MethodName) method_2_code (1 : Nat) (Option.some Jvm.ClassFile.FieldType.boolean)]
set_option maxRecDepth 65536 in
theorem codes_eq : words1.filter isCode = codes1 := rfl
theorem w_codes : ∀ c ∈ words1.filter isCode, c.before args0 about1 = true := by
  rw [codes_eq]
  intro c hc
  simp only [codes1, List.mem_cons, List.not_mem_nil, or_false] at hc
  rcases hc with rfl | rfl | rfl
  · exact w_c0
  · exact w_c1
  · exact w_c2
set_option maxRecDepth 65536 in
theorem w_t1 : words1.all (fun c => isCode c || c.before args0 about1) = true := by decide +kernel
theorem w_tables : (allAtoms (Jvm.Cond.code x code maxLocals ret :: tables_1)).before args0 about1 = true := by
  rw [allAtoms_all]
  show words1.all (fun c => c.before args0 about1) = true
  refine all_split ?_ w_codes
  rw [w_t1]
set_option maxRecDepth 65536 in
theorem w_case : (Jvm.Cond.and given_1 narrow_1).before args0 about1 = true := by decide +kernel
theorem w_applies : (headSpec (Jvm.Cond.code x code maxLocals ret :: tables_1) room_1).applies x e0.platform about1 = true :=
  (Spec.applies_iff w_frames).mpr ⟨w_running, w_runnable, w_alone, w_named, w_hears, w_ripe, w_room, w_tables⟩
theorem atStart : AtStart classFile x code maxLocals ret World_1 tables_1 room_1 Calls_1 rest_1 Pre_1 launch0 p0 e0 about1 theMethod args0 below0 :=
  ⟨lists_1, trivial, launch0.admits_env _ _ _, launch0.least_env, fairChoices_fair.cas, fairChoices_fair.clock, w_frames, w_args, w_heap, w_applies, trivial, trivial, w_case⟩
end start1
theorem witness_1 : WitnessClaimed_1 := ⟨start1.p0, start1.e0, start1.about1, start1.theMethod, start1.args0, start1.below0, start1.atStart⟩
end Jvm.Pilot.@@N@@
