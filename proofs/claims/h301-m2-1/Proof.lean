import JvmDerived
import JvmDerived.Pilot.@@N@@Statement
import JvmDerived.Pilot.@@N@@Code
set_option linter.unusedVariables false
set_option linter.unusedSimpArgs false
namespace Jvm.Pilot.@@N@@
open Jvm Jvm.ClassFile Sem Op Lib Jvm.Free Jvm.Stand Jvm.LawKit Jvm.RoadKit Bundle Jvm.Pilot.@@N@@.Jvm.D
/-! the walk in continuation style: 'Fin': from F on the run comes to an end that answers Q -/
section Own
variable {p : Program} {l : Launch} {e : Env} {R : Room} {s : State} {m : MethodId} {args : Array Value} {below : List Frame} {meth : Method} {c : Code} {T : State} {locs : List Loc} {cells slots : Nat}
def OFin (p : Program) (e : Env) (below : List Frame) (Q : Outcome → State → Prop) (F : State) : Prop := ∃ s₂ o, Steps p.tables e below F s₂ ∧ s₂.status = .running ∧ Ended s₂ below o ∧ Q o s₂
def ORet (Q : Option Value → Heap → List Loc → Prop) (s : State) (C S : Nat) (o : Outcome) (U' : State) : Prop := ∃ v L, o = .returned v ∧ Q v U'.heap L ∧ FrameEnd s o U' L C S
theorem OFin.go {Q : Outcome → State → Prop} {F F' : State} (st : ∀ t, Steps p.tables e below F' t → Steps p.tables e below F t) (h : OFin p e below Q F') : OFin p e below Q F := by
  obtain ⟨s2, o, h1, r⟩ := h; exact ⟨s2, o, st _ h1, r⟩
theorem OFin.tr {Q : Outcome → State → Prop} {F F' : State} (st : Steps p.tables e below F F') (h : OFin p e below Q F') : OFin p e below Q F := by
  obtain ⟨s2, o, h1, r⟩ := h; exact ⟨s2, o, st.trans h1, r⟩
variable {Q : Option Value → Heap → List Loc → Prop} {C S : Nat}
theorem finZ (X : Stand p l e R s m args below meth c T locs cells slots) (hx : p.tables.exec = Jvm.exec) (hlocks : meth.locks = false) {t : FieldType} (hret : meth.sig.returnType = some t) (ht : t = .boolean ∨ t = .byte ∨ t = .char ∨ t = .short) {pc : Nat} (hd : decode c.code pc = .ok (.ireturn, 1)) {z z' : Int32} (hz : nar t z = z') (hc : cells ≤ C) (hs : slots ≤ S) {Ls : Array Slot} {rest : List Value} (hQ : Q (some (.int z')) T.heap locs) : OFin p e below (ORet Q s C S) (T.setTop (mkF m pc Ls (.int z :: rest))) := by
  subst hz
  obtain ⟨fs, hr, hrun, hended, hW, hsame⟩ := X.leave (v := some (.int (nar t z))) (fun h => by rw [hret] at h; cases h)
  exact ⟨_, _, retN X hx (t := t) hret ht hd hr, hrun, hended, _, _, rfl, hQ, ⟨_, rfl⟩, hW, hsame.mono hc hs⟩
theorem finI (X : Stand p l e R s m args below meth c T locs cells slots) (hx : p.tables.exec = Jvm.exec) (hlocks : meth.locks = false) (hret : meth.sig.returnType = some .int) {pc : Nat} (hd : decode c.code pc = .ok (.ireturn, 1)) {z : Int32} (hc : cells ≤ C) (hs : slots ≤ S) {Ls : Array Slot} {rest : List Value} (hQ : Q (some (.int z)) T.heap locs) : OFin p e below (ORet Q s C S) (T.setTop (mkF m pc Ls (.int z :: rest))) := by
  obtain ⟨fs, hr, hrun, hended, hW, hsame⟩ := X.leave (v := some (.int z)) (fun h => by rw [hret] at h; cases h)
  exact ⟨_, _, retOut X hx hret rfl (Or.inl ⟨rfl, Or.inl rfl, _, rfl⟩) hd hr, hrun, hended, _, _, rfl, hQ, ⟨_, rfl⟩, hW, hsame.mono hc hs⟩
theorem finJ (X : Stand p l e R s m args below meth c T locs cells slots) (hx : p.tables.exec = Jvm.exec) (hlocks : meth.locks = false) (hret : meth.sig.returnType = some .long) {pc : Nat} (hd : decode c.code pc = .ok (.lreturn, 1)) {z : Int64} (hc : cells ≤ C) (hs : slots ≤ S) {Ls : Array Slot} {rest : List Value} (hQ : Q (some (.long z)) T.heap locs) : OFin p e below (ORet Q s C S) (T.setTop (mkF m pc Ls (.long z :: rest))) := by
  obtain ⟨fs, hr, hrun, hended, hW, hsame⟩ := X.leave (v := some (.long z)) (fun h => by rw [hret] at h; cases h)
  exact ⟨_, _, retOut X hx hret rfl (Or.inr (Or.inl ⟨rfl, rfl, _, rfl⟩)) hd hr, hrun, hended, _, _, rfl, hQ, ⟨_, rfl⟩, hW, hsame.mono hc hs⟩
theorem finA (X : Stand p l e R s m args below meth c T locs cells slots) (hx : p.tables.exec = Jvm.exec) (hlocks : meth.locks = false) {w : Value} (hw : w.isRef = true) {t : FieldType} (hret : meth.sig.returnType = some t) (ht : t.isReference = true) {pc : Nat} (hd : decode c.code pc = .ok (.areturn, 1)) (hc : cells ≤ C) (hs : slots ≤ S) {Ls : Array Slot} {rest : List Value} (hQ : Q (some w) T.heap locs) : OFin p e below (ORet Q s C S) (T.setTop (mkF m pc Ls (w :: rest))) := by
  obtain ⟨fs, hr, hrun, hended, hW, hsame⟩ := X.leave (v := some w) (fun h => by rw [hret] at h; cases h)
  refine ⟨_, _, retOut X hx hret ?_ (Or.inr (Or.inr (Or.inr (Or.inr ⟨rfl, ht, hw⟩)))) hd hr, hrun, hended, _, _, rfl, hQ, ⟨_, rfl⟩, hW, hsame.mono hc hs⟩
  cases w <;> first | (simp [Value.isRef] at hw; done) | (cases t <;> first | rfl | (simp [FieldType.isReference] at ht; done))
theorem finV (X : Stand p l e R s m args below meth c T locs cells slots) (hx : p.tables.exec = Jvm.exec) (hlocks : meth.locks = false) (hret : meth.sig.returnType = none) {pc : Nat} (hd : decode c.code pc = .ok (.return_, 1)) (hc : cells ≤ C) (hs : slots ≤ S) {Ls : Array Slot} (hQ : Q none T.heap locs) : OFin p e below (ORet Q s C S) (T.setTop (mkF m pc Ls [])) := by
  obtain ⟨fs, hr, hrun, hended, hW, hsame⟩ := X.leave (v := none) (fun _ => rfl)
  exact ⟨_, _, X.returnOut hx hret hd hr, hrun, hended, _, _, rfl, hQ, ⟨_, rfl⟩, hW, hsame.mono hc hs⟩
end Own
/-- a boolean as the int that bears it -/
def bi (P : Prop) [Decidable P] : Int32 := if P then 1 else 0
theorem bi_t {P : Prop} [Decidable P] (h : P) : bi P = 1 := if_pos h
theorem bi_f {P : Prop} [Decidable P] (h : ¬ P) : bi P = 0 := if_neg h
theorem nar_bi (P : Prop) [Decidable P] : nar .boolean (bi P) = bi P := by unfold bi; split <;> rfl
theorem bi_iff {P Q : Prop} [Decidable P] [Decidable Q] : bi P = bi Q ↔ (P ↔ Q) := by
  unfold bi; by_cases h : P <;> by_cases k : Q <;> simp [h, k]
theorem bi0 {P : Prop} [Decidable P] : (bi P = 0) ↔ ¬ P := by unfold bi; by_cases h : P <;> simp [h]
theorem bi_ne_t {P : Prop} [Decidable P] (h : P) : ifCond.holds .ne (bi P) = true := by rw [bi_t h]; rfl
theorem bi_ne_f {P : Prop} [Decidable P] (h : ¬ P) : ifCond.holds .ne (bi P) = false := by rw [bi_f h]; rfl
theorem bi_eq_t {P : Prop} [Decidable P] (h : ¬ P) : ifCond.holds .eq (bi P) = true := by rw [bi_f h]; rfl
theorem bi_eq_f {P : Prop} [Decidable P] (h : P) : ifCond.holds .eq (bi P) = false := by rw [bi_t h]; rfl
theorem lc_lt_t {x y : Int64} (h : x < y) : ifCond.holds .lt (lcmpW x y) = true := (if0 _ _).trans (tlt ((lw_lt x y).mpr h)).1
theorem lc_lt_f {x y : Int64} (h : ¬ x < y) : ifCond.holds .lt (lcmpW x y) = false := (if0 _ _).trans (flt fun q => h ((lw_lt x y).mp q)).1
theorem lc_ge_t {x y : Int64} (h : ¬ x < y) : ifCond.holds .ge (lcmpW x y) = true := (if0 _ _).trans (flt fun q => h ((lw_lt x y).mp q)).2.1
theorem lc_ge_f {x y : Int64} (h : x < y) : ifCond.holds .ge (lcmpW x y) = false := (if0 _ _).trans (tlt ((lw_lt x y).mpr h)).2.1
theorem lc_gt_t {x y : Int64} (h : y < x) : ifCond.holds .gt (lcmpW x y) = true := (if0 _ _).trans (tlt ((lw_gt x y).mpr h)).2.2.1
theorem lc_gt_f {x y : Int64} (h : ¬ y < x) : ifCond.holds .gt (lcmpW x y) = false := (if0 _ _).trans (flt fun q => h ((lw_gt x y).mp q)).2.2.1
theorem lc_le_t {x y : Int64} (h : ¬ y < x) : ifCond.holds .le (lcmpW x y) = true := (if0 _ _).trans (flt fun q => h ((lw_gt x y).mp q)).2.2.2
theorem lc_le_f {x y : Int64} (h : y < x) : ifCond.holds .le (lcmpW x y) = false := (if0 _ _).trans (tlt ((lw_gt x y).mpr h)).2.2.2
theorem lc_eq_t {x y : Int64} (h : x = y) : ifCond.holds .eq (lcmpW x y) = true := (if0 _ _).trans (teq ((lw_eq x y).mpr h)).1
theorem lc_eq_f {x y : Int64} (h : ¬ x = y) : ifCond.holds .eq (lcmpW x y) = false := (if0 _ _).trans (feq fun q => h ((lw_eq x y).mp q)).1
theorem lc_ne_t {x y : Int64} (h : ¬ x = y) : ifCond.holds .ne (lcmpW x y) = true := (if0 _ _).trans (feq fun q => h ((lw_eq x y).mp q)).2
theorem lc_ne_f {x y : Int64} (h : x = y) : ifCond.holds .ne (lcmpW x y) = false := (if0 _ _).trans (teq ((lw_eq x y).mpr h)).2
/-! arrays by their places -/
def upd {α : Type} (f : Nat → α) (i : Nat) (v : α) : Nat → α := fun j => if j = i then v else f j
theorem upd_hit {α : Type} (f : Nat → α) (i : Nat) (v : α) : upd f i v i = v := if_pos rfl
theorem upd_miss {α : Type} {f : Nat → α} {i j : Nat} {v : α} (h : j ≠ i) : upd f i v j = f j := if_neg h
def Ara (Z : State) (h : Heap) (a : Addr) (ty : FieldType) (n : Nat) (f : Nat → Value) : Prop := ∃ c : Cell, Arr Z h a c ty ∧ c.slots.size = n ∧ n < 2 ^ 31 ∧ ∀ i, i < n → c.slots[i]? = some (f i)
section Ara
variable {Z : State} {h h' : Heap} {a b : Addr} {ty : FieldType} {n : Nat} {f f' : Nat → Value} {sl : Nat} {v : Value} {ws : List Addr}
theorem Ara.lt (F : Ara Z h a ty n f) : a < h.size := by obtain ⟨c, A, -⟩ := F; exact A.lt
theorem Ara.ext (F : Ara Z h a ty n f) (E : Ext h h') : Ara Z h' a ty n f := by obtain ⟨c, A, r⟩ := F; exact ⟨c, A.ext E, r⟩
theorem Ara.other (F : Ara Z h b ty n f) (W : Wr h h' a sl v) (q : b ≠ a) : Ara Z h' b ty n f := by obtain ⟨c, A, r⟩ := F; exact ⟨c, A.other W q, r⟩
theorem Ara.keep (F : Ara Z h a ty n f) (K : Keep h h' ws) (q : a ∉ ws) : Ara Z h' a ty n f := by obtain ⟨c, A, r⟩ := F; exact ⟨c, ⟨K.2.1 a c A.1 q, A.2⟩, r⟩
theorem Ara.set (F : Ara Z h a ty n f) (W : Wr h h' a sl v) : Ara Z h' a ty n (upd f sl v) := by
  obtain ⟨c, A, r1, r2, r3⟩ := F
  refine ⟨_, A.same W, by rw [sz_set]; exact r1, r2, fun i hi => ?_⟩
  by_cases q : i = sl
  · subst q; rw [upd_hit]; simp [Cell.setSlot, r1, hi]
  · rw [upd_miss q]; simp only [Cell.setSlot]; rw [Array.getElem?_setIfInBounds_ne (fun z => q z.symm)]; exact r3 i hi
theorem Ara.new {k : ClassId} {z : Int32} (A : Arr Z h a (newA k ty z) ty) (hn : z.toNatClampNeg = n) : Ara Z h a ty n (fun _ => defaultValue ty) := by
  refine ⟨_, A, by rw [sz_new]; exact hn, ?_, fun i hi => ?_⟩
  · rw [← hn]; have := z.toInt_lt; unfold Int32.toNatClampNeg; omega
  · rw [← hn] at hi; simp [newA, hi]
theorem Ara.congr (F : Ara Z h a ty n f) (q : ∀ i, i < n → f i = f' i) : Ara Z h a ty n f' := by obtain ⟨c, A, r1, r2, r3⟩ := F; exact ⟨c, A, r1, r2, fun i hi => by rw [← q i hi]; exact r3 i hi⟩
variable {p : Program} {l : Launch} {e : Env} {R : Room} {s : State} {m : MethodId} {args : Array Value} {below : List Frame} {meth : Method} {c : Code} {T : State} {locs : List Loc} {cells slots : Nat} {j : Int32} {i : Nat} {rest : List Value} {g : JFrame} {t : State} {x : Value}
theorem hin_of {cl : Cell} (S : cl.slots.size = n) (hj0 : ¬ j < 0) (hj : j.toNatClampNeg = i) (hi : i < n) : ¬ (j < 0 ∨ cl.slots.size ≤ j.toNatClampNeg) := by rw [S, hj]; exact fun q => q.elim hj0 (Nat.not_le.mpr hi)
theorem rdB (X : Stand p l e R s m args below meth c T locs cells slots) (hx : p.tables.exec = Jvm.exec) (hZ : Z.Warmed39 s.vm) (eT : T.heap = h) (F : Ara Z h a .byte n f) (hj0 : ¬ j < 0) (hj : j.toNatClampNeg = i) (hi : i < n) (hv : f i = x) (hg : g.method = m) (hs : g.stack = .int j :: .ref a :: rest) (hd : decode c.code g.pc = .ok (.baload, 1))
    (k : Steps p.tables e below (T.setTop { g with pc := g.pc + 1, stack := x :: rest }) t) : Steps p.tables e below (T.setTop g) t := by
  obtain ⟨cl, A, r1, r2, r3⟩ := F
  exact X.baloadBytes hx (by rw [eT]; exact A.1) (State.isArrayOf_alike hZ.alike A.2.1) A.2.2 (hin_of r1 hj0 hj hi) (by rw [hj, r3 i hi, hv]) hg hs hd _ k
theorem rdI (X : Stand p l e R s m args below meth c T locs cells slots) (hx : p.tables.exec = Jvm.exec) (hZ : Z.Warmed39 s.vm) (eT : T.heap = h) (F : Ara Z h a .int n f) (hj0 : ¬ j < 0) (hj : j.toNatClampNeg = i) (hi : i < n) (hv : f i = x) (hg : g.method = m) (hs : g.stack = .int j :: .ref a :: rest) (hd : decode c.code g.pc = .ok (.iaload, 1))
    (k : Steps p.tables e below (T.setTop { g with pc := g.pc + 1, stack := x :: rest }) t) : Steps p.tables e below (T.setTop g) t := by
  obtain ⟨cl, A, r1, r2, r3⟩ := F
  exact X.iaload hx (by rw [eT]; exact A.1) (State.isArrayOf_alike hZ.alike A.2.1) A.2.2 (hin_of r1 hj0 hj hi) (by rw [hj, r3 i hi, hv]) hg hs hd _ k
theorem rdJ (X : Stand p l e R s m args below meth c T locs cells slots) (hx : p.tables.exec = Jvm.exec) (hZ : Z.Warmed39 s.vm) (eT : T.heap = h) (F : Ara Z h a .long n f) (hj0 : ¬ j < 0) (hj : j.toNatClampNeg = i) (hi : i < n) (hv : f i = x) (hg : g.method = m) (hs : g.stack = .int j :: .ref a :: rest) (hd : decode c.code g.pc = .ok (.laload, 1))
    (k : Steps p.tables e below (T.setTop { g with pc := g.pc + 1, stack := x :: rest }) t) : Steps p.tables e below (T.setTop g) t := by
  obtain ⟨cl, A, r1, r2, r3⟩ := F
  exact X.laload hx (by rw [eT]; exact A.1) (State.isArrayOf_alike hZ.alike A.2.1) A.2.2 (hin_of r1 hj0 hj hi) (by rw [hj, r3 i hi, hv]) hg hs hd _ k
theorem rdR (X : Stand p l e R s m args below meth c T locs cells slots) (hx : p.tables.exec = Jvm.exec) (hZ : Z.Warmed39 s.vm) (eT : T.heap = h) (F : Ara Z h a ty n f) (hty : ty.isReference = true) (hj0 : ¬ j < 0) (hj : j.toNatClampNeg = i) (hi : i < n) (hv : f i = x) (hg : g.method = m) (hs : g.stack = .int j :: .ref a :: rest) (hd : decode c.code g.pc = .ok (.aaload, 1))
    (k : Steps p.tables e below (T.setTop { g with pc := g.pc + 1, stack := x :: rest }) t) : Steps p.tables e below (T.setTop g) t := by
  obtain ⟨cl, A, r1, r2, r3⟩ := F
  exact X.aaload hx (by rw [eT]; exact A.1) (State.isArrayOf_alike hZ.alike A.2.1) hty A.2.2 (hin_of r1 hj0 hj hi) (by rw [hj, r3 i hi, hv]) hg hs hd _ k
theorem alen (X : Stand p l e R s m args below meth c T locs cells slots) (hx : p.tables.exec = Jvm.exec) (hZ : Z.Warmed39 s.vm) (eT : T.heap = h) (F : Ara Z h a ty n f) {z : Int32} (hz : n.toInt32 = z) (hg : g.method = m) (hs : g.stack = .ref a :: rest) (hd : decode c.code g.pc = .ok (.arraylength, 1))
    (k : Steps p.tables e below (T.setTop { g with pc := g.pc + 1, stack := .int z :: rest }) t) : Steps p.tables e below (T.setTop g) t := by
  obtain ⟨cl, A, r1, r2, r3⟩ := F
  refine X.arraylength hx (by rw [eT]; exact A.1) (State.isArrayOf_alike hZ.alike A.2.1) hg hs hd _ ?_
  rw [r1, hz]; exact k
theorem wrB (X : Stand p l e R s m args below meth c T locs cells slots) (hx : p.tables.exec = Jvm.exec) (hZ : Z.Warmed39 s.vm) (eT : T.heap = h) (F : Ara Z h a .byte n f) {y : Int32} (hj0 : ¬ j < 0) (hj : j.toNatClampNeg = i) (hi : i < n) {y' : Int32} (hy : nar .byte y = y') (hg : g.method = m) (hs : g.stack = .int y :: .int j :: .ref a :: rest) (hd : decode c.code g.pc = .ok (.bastore, 1)) :
    ∃ T' h', Stand p l e R s m args below meth c T' (locs ++ [⟨a, i⟩]) cells slots ∧ T'.heap = h' ∧ Wr h h' a i (.int y') ∧ ∀ target, Steps p.tables e below (T'.setTop { g with pc := g.pc + 1, stack := rest }) target → Steps p.tables e below (T.setTop g) target := by
  subst hj hy
  obtain ⟨cl, A, r1, r2, r3⟩ := F
  exact stB X hx hZ eT A (hin_of r1 hj0 rfl hi) hg hs hd
theorem wrI (X : Stand p l e R s m args below meth c T locs cells slots) (hx : p.tables.exec = Jvm.exec) (hZ : Z.Warmed39 s.vm) (eT : T.heap = h) (F : Ara Z h a .int n f) {y : Int32} (hj0 : ¬ j < 0) (hj : j.toNatClampNeg = i) (hi : i < n) (hg : g.method = m) (hs : g.stack = .int y :: .int j :: .ref a :: rest) (hd : decode c.code g.pc = .ok (.iastore, 1)) :
    ∃ T' h', Stand p l e R s m args below meth c T' (locs ++ [⟨a, i⟩]) cells slots ∧ T'.heap = h' ∧ Wr h h' a i (.int y) ∧ ∀ target, Steps p.tables e below (T'.setTop { g with pc := g.pc + 1, stack := rest }) target → Steps p.tables e below (T.setTop g) target := by
  subst hj
  obtain ⟨cl, A, r1, r2, r3⟩ := F
  exact stI X hx hZ eT A (hin_of r1 hj0 rfl hi) hg hs hd
theorem wrJ (X : Stand p l e R s m args below meth c T locs cells slots) (hx : p.tables.exec = Jvm.exec) (hZ : Z.Warmed39 s.vm) (eT : T.heap = h) (F : Ara Z h a .long n f) {y : Int64} (hj0 : ¬ j < 0) (hj : j.toNatClampNeg = i) (hi : i < n) (hg : g.method = m) (hs : g.stack = .long y :: .int j :: .ref a :: rest) (hd : decode c.code g.pc = .ok (.lastore, 1)) :
    ∃ T' h', Stand p l e R s m args below meth c T' (locs ++ [⟨a, i⟩]) cells slots ∧ T'.heap = h' ∧ Wr h h' a i (.long y) ∧ ∀ target, Steps p.tables e below (T'.setTop { g with pc := g.pc + 1, stack := rest }) target → Steps p.tables e below (T.setTop g) target := by
  subst hj
  obtain ⟨cl, A, r1, r2, r3⟩ := F
  exact stJ X hx hZ eT A (hin_of r1 hj0 rfl hi) hg hs hd
end Ara
theorem wr_le {h h' : Heap} {a : Addr} {sl : Nat} {v : Value} (W : Wr h h' a sl v) : h.size ≤ h'.size := Nat.le_of_eq W.size.symm
theorem up_lt {k a b : Nat} (h : a < k) (g : b = k) : a ≠ b := by omega
theorem nar_b (y : Int32) : nar .byte y.toInt8.toInt32 = y.toInt8.toInt32 := by show y.toInt8.toInt32.toInt8.toInt32 = _; rw [Int8.toInt8_toInt32]
theorem Sta_keep {Z : State} {h h' : Heap} {C n d : String} {v : Value} {ws : List Addr} {k : Nat} (F : Sta Z h C n d v) (K : Keep h h' ws) (q : ∀ x ∈ ws, Z.heap.size ≤ x) (hst : ∀ cf kk i f st, Z.fieldFound? C n d = some (cf, kk, i, f) → kk.statics = some st → st < Z.heap.size) : Sta Z h' C n d v := by
  obtain ⟨cf, i, kk, f, st, cell, h1, h2, h3, h4, h5, r⟩ := F
  exact ⟨cf, i, kk, f, st, cell, h1, h2, h3, h4, K.2.1 _ _ h5 (fun z => absurd (hst _ _ _ _ _ h1 h4) (Nat.not_lt.mpr (q _ z))), r⟩
theorem eqv_r {Z : State} {args : Array Value} {X F : Term} {idx : List Nat} {y : Addr} (hF : F.eval args Z none idx Z = some (.ref y)) (h : (Cond.eq X F).value args Z none Z idx = some true) : X.eval args Z none idx Z = some (.ref y) := by
  cases hx : X.eval args Z none idx Z with
  | none => simp [Cond.value, hF, hx] at h
  | some x => cases x <;> simp [Cond.value, hF, hx] at h ⊢ <;> exact h
/-! calls by a contract, in one piece -/
section Calls
variable {p : Program} {l : Launch} {e : Env} {R : Room} {s : State} {m : MethodId} {args : Array Value} {below : List Frame} {meth : Method} {c : Code} {T : State} {locs : List Loc} {cells slots : Nat} {Z : State} {a0 : Array Value} {h : Heap}
abbrev Meets1 (l : Launch) (y : MethodName) (bytes : ByteArray) (maxL : Nat) (ret : Option FieldType) (rm : Room) (Z : State) (as' : Array Value) (h : Heap) (Q : Option Value → Heap → List Loc → Prop) : Prop :=
  MetFree l y (head1 [Cond.code y bytes maxL ret] rm) (fun a U => a = as' ∧ Z.Warmed39 U.vm ∧ U.heap = h) (fun _ _ _ _ _ => True) (fun _ U o U' => ∃ v L, o = .returned v ∧ Q v U'.heap L ∧ FrameEnd U o U' L rm.cells rm.slots)
theorem callQ (X : Stand p l e R s m args below meth c T locs cells slots) (hx : p.tables.exec = Jvm.exec) (hZ : Z.Warmed39 s.vm) {own : String} {index : Nat} {y : MethodName} {bytes : ByteArray} {maxL : Nat} {ret : Option FieldType} (hown : s.vm.findClass own = some m.cls)
    (w1 : (Cond.methodLink own index y).before a0 Z = true) (w2 : (Cond.static y).before a0 Z = true) (w3 : (Cond.initialized y.cls).before a0 Z = true) (w4 : (Cond.code y bytes maxL ret).before a0 Z = true) (hy : y.cls ≠ "java/lang/invoke/MethodHandle" ∧ y.cls ≠ "java/lang/invoke/VarHandle")
    {rm : Room} {argsL rest : List Value} {Q : Option Value → Heap → List Loc → Prop} (hM : Meets1 l y bytes maxL ret rm Z argsL.toArray h Q) {W : Nat} (hf : rm.frames + 1 ≤ R.frames) (hl : W + (maxL + 11) + rm.locals ≤ R.locals) (eT : T.heap = h)
    {g : JFrame} (hg : g.method = m) (hsize : g.locals.size = c.maxLocals) (hlen : ∀ sig, parseMethodDescriptor y.desc = some sig → argsL.length = sig.parameters.length) (hstack : g.stack = argsL.reverse ++ rest) (hW : 2 * g.monitorRoom + (rest.map fun v => v.category).sum ≤ W) (hd : decode c.code g.pc = .ok (.invokestatic index, 3)) (hc : cells + rm.cells ≤ R.cells) (hs : slots + rm.slots ≤ R.slots) :
    ∃ v T' L, Stand p l e R s m args below meth c T' (locs ++ L) (cells + rm.cells) (slots + rm.slots) ∧ Q v T'.heap L ∧ ∀ target, Steps p.tables e below (T'.setTop { g with pc := g.pc + 3, stack := v.toList ++ rest }) target → Steps p.tables e below (T.setTop g) target := by
  obtain ⟨v, _, ⟨T', L', k', n'⟩, -, X', ⟨L, hQ, hl', hk', hn'⟩, st⟩ := Jvm.LawKit.callS X hx hown (mvT hZ w1) (mvT hZ w2) (mvT hZ w3) (mvT hZ w4) hy (backOf (W := W) hM hZ w4 w3 hf hl) hg hsize hlen hstack hW hd (fun _ _ => ⟨rfl, eT, hc, hs⟩)
  dsimp only [Pt.U, Pt.locs, Pt.cells, Pt.slots] at X' hl' hk' hn' st hQ
  subst hl' hk' hn'
  exact ⟨v, T', L, X', hQ, st⟩
theorem specQ (X : Stand p l e R s m args below meth c T locs cells slots) (hx : p.tables.exec = Jvm.exec) (hZ : Z.Warmed39 s.vm) {own : String} {index : Nat} {y : MethodName} {bytes : ByteArray} {maxL : Nat} (hy1 : y.name = "<init>") (hown : s.vm.findClass own = some m.cls)
    (w1 : (Cond.methodLink own index y).before a0 Z = true) (w2 : (Cond.instanceMethod y).before a0 Z = true) (w3 : (Cond.initialized y.cls).before a0 Z = true) (w4 : (Cond.code y bytes maxL none).before a0 Z = true) (hy : y.cls ≠ "java/lang/invoke/MethodHandle" ∧ y.cls ≠ "java/lang/invoke/VarHandle")
    {rm : Room} {a : Addr} {argsL rest : List Value} {Q : Option Value → Heap → List Loc → Prop} (hM : Meets1 l y bytes maxL none rm Z (.ref a :: argsL).toArray h Q) {W : Nat} (hf : rm.frames + 1 ≤ R.frames) (hl : W + (maxL + 11) + rm.locals ≤ R.locals) (eT : T.heap = h)
    {g : JFrame} (hg : g.method = m) (hsize : g.locals.size = c.maxLocals) (hlen : ∀ sig, parseMethodDescriptor y.desc = some sig → argsL.length = sig.parameters.length) (hstack : g.stack = argsL.reverse ++ .ref a :: rest) (hW : 2 * g.monitorRoom + (rest.map fun v => v.category).sum ≤ W) (hd : decode c.code g.pc = .ok (.invokespecial index, 3)) (hc : cells + rm.cells ≤ R.cells) (hs : slots + rm.slots ≤ R.slots) :
    ∃ v T' L, Stand p l e R s m args below meth c T' (locs ++ L) (cells + rm.cells) (slots + rm.slots) ∧ Q v T'.heap L ∧ ∀ target, Steps p.tables e below (T'.setTop { g with pc := g.pc + 3, stack := v.toList ++ rest }) target → Steps p.tables e below (T.setTop g) target := by
  obtain ⟨v, _, ⟨T', L', k', n'⟩, -, X', ⟨L, hQ, hl', hk', hn'⟩, st⟩ := X.specialBack hx hy1 hown (mvT hZ w1) (mvT hZ w2) (mvT hZ w4) hy (backOf (W := W) hM hZ w4 w3 hf hl) hg hsize (Steps.refl _) hlen hstack hW hd (fun _ _ => ⟨rfl, eT, hc, hs⟩)
  dsimp only [Pt.U, Pt.locs, Pt.cells, Pt.slots] at X' hl' hk' hn' st hQ
  subst hl' hk' hn'
  exact ⟨v, T', L, X', hQ, fun t k => st.trans k⟩
theorem virtQ (X : Stand p l e R s m args below meth c T locs cells slots) (hx : p.tables.exec = Jvm.exec) (hZ : Z.Warmed39 s.vm) {own : String} {index : Nat} {y : MethodName} {bytes : ByteArray} {maxL : Nat} {ret : Option FieldType} (hown : s.vm.findClass own = some m.cls)
    (w1 : (Cond.methodLink own index y).before a0 Z = true) (w2 : (Cond.instanceMethod y).before a0 Z = true) (w3 : (Cond.initialized y.cls).before a0 Z = true) (w4 : (Cond.code y bytes maxL ret).before a0 Z = true) (w5 : (Cond.declares y).before a0 Z = true) (w6 : (Cond.selects y.cls y y).before a0 Z = true) (hy : y.cls ≠ "java/lang/invoke/MethodHandle" ∧ y.cls ≠ "java/lang/invoke/VarHandle")
    {rm : Room} {a : Addr} (E : Exa Z h a y.cls) {argsL rest : List Value} {Q : Option Value → Heap → List Loc → Prop} (hM : Meets1 l y bytes maxL ret rm Z (.ref a :: argsL).toArray h Q) {W : Nat} (hf : rm.frames + 1 ≤ R.frames) (hl : W + (maxL + 11) + rm.locals ≤ R.locals) (eT : T.heap = h)
    {g : JFrame} (hg : g.method = m) (hsize : g.locals.size = c.maxLocals) (hlen : ∀ sig, parseMethodDescriptor y.desc = some sig → argsL.length = sig.parameters.length) (hstack : g.stack = argsL.reverse ++ .ref a :: rest) (hW : 2 * g.monitorRoom + (rest.map fun v => v.category).sum ≤ W) (hd : decode c.code g.pc = .ok (.invokevirtual index, 3)) (hc : cells + rm.cells ≤ R.cells) (hs : slots + rm.slots ≤ R.slots) :
    ∃ v T' L, Stand p l e R s m args below meth c T' (locs ++ L) (cells + rm.cells) (slots + rm.slots) ∧ Q v T'.heap L ∧ ∀ target, Steps p.tables e below (T'.setTop { g with pc := g.pc + 3, stack := v.toList ++ rest }) target → Steps p.tables e below (T.setTop g) target := by
  obtain ⟨cq, kq, qa, qb, qc⟩ := isOf hZ eT E
  obtain ⟨v, _, ⟨T', L', k', n'⟩, -, X', ⟨L, hQ, hl', hk', hn'⟩, st⟩ := X.virtualBack hx (y := y) (z := y) hown (mvT hZ w1) (mvT hZ w5) (notFace_of_selects (args := #[]) (mvT hZ w6)) (mvT hZ w6) (mvT hZ w2) hy (backOf (W := W) hM hZ w4 w3 hf hl) qa qc hg hsize (Steps.refl _) hlen hstack hW hd (fun _ _ => ⟨rfl, eT, hc, hs⟩)
  dsimp only [Pt.U, Pt.locs, Pt.cells, Pt.slots] at X' hl' hk' hn' st hQ
  subst hl' hk' hn'
  exact ⟨v, T', L, X', hQ, fun t k => st.trans k⟩
theorem privQ (X : Stand p l e R s m args below meth c T locs cells slots) (hx : p.tables.exec = Jvm.exec) (hZ : Z.Warmed39 s.vm) {own : String} {index : Nat} {y : MethodName} {bytes : ByteArray} {maxL : Nat} {ret : Option FieldType} (hown : s.vm.findClass own = some m.cls)
    (w1 : (Cond.methodLink own index y).before a0 Z = true) (w2 : (Cond.instanceMethod y).before a0 Z = true) (w3 : (Cond.initialized y.cls).before a0 Z = true) (w4 : (Cond.code y bytes maxL ret).before a0 Z = true) (w5 : (Cond.privateMethod y).before a0 Z = true) (w6 : (Cond.selects y.cls y y).before a0 Z = true) (hy : y.cls ≠ "java/lang/invoke/MethodHandle" ∧ y.cls ≠ "java/lang/invoke/VarHandle")
    {rm : Room} {a : Addr} {C : String} (E : Exa Z h a C) {argsL rest : List Value} {Q : Option Value → Heap → List Loc → Prop} (hM : Meets1 l y bytes maxL ret rm Z (.ref a :: argsL).toArray h Q) {W : Nat} (hf : rm.frames + 1 ≤ R.frames) (hl : W + (maxL + 11) + rm.locals ≤ R.locals) (eT : T.heap = h)
    {g : JFrame} (hg : g.method = m) (hsize : g.locals.size = c.maxLocals) (hlen : ∀ sig, parseMethodDescriptor y.desc = some sig → argsL.length = sig.parameters.length) (hstack : g.stack = argsL.reverse ++ .ref a :: rest) (hW : 2 * g.monitorRoom + (rest.map fun v => v.category).sum ≤ W) (hd : decode c.code g.pc = .ok (.invokevirtual index, 3)) (hc : cells + rm.cells ≤ R.cells) (hs : slots + rm.slots ≤ R.slots) :
    ∃ v T' L, Stand p l e R s m args below meth c T' (locs ++ L) (cells + rm.cells) (slots + rm.slots) ∧ Q v T'.heap L ∧ ∀ target, Steps p.tables e below (T'.setTop { g with pc := g.pc + 3, stack := v.toList ++ rest }) target → Steps p.tables e below (T.setTop g) target := by
  obtain ⟨cq, q1, q2⟩ := E.cell
  obtain ⟨v, _, ⟨T', L', k', n'⟩, -, X', ⟨L, hQ, hl', hk', hn'⟩, st⟩ := X.privateBack hx (y := y) hown (mvT hZ w1) (mvT hZ w2) (mvT hZ w6) (Cond.privateMethod_at (mvP hZ w5 (args := #[]))) (mvT hZ w4) hy (backOf (W := W) hM hZ w4 w3 hf hl) hg hsize (Steps.refl _) (a := a) (by rw [eT]; exact q1) q2 hlen hstack hW hd (fun _ _ => ⟨rfl, eT, hc, hs⟩)
  dsimp only [Pt.U, Pt.locs, Pt.cells, Pt.slots] at X' hl' hk' hn' st hQ
  subst hl' hk' hn'
  exact ⟨v, T', L, X', hQ, fun t k => st.trans k⟩
end Calls
theorem d1_0 : decode prog_50_method_11_code 0 = .ok (.iload_n 0, 1) := by decide +kernel
theorem d1_1 : decode prog_50_method_11_code 1 = .ok (.bipush 32, 2) := by decide +kernel
theorem d1_3 : decode prog_50_method_11_code 3 = .ok (.if_icmp .le 19, 3) := by decide +kernel
theorem d1_6 : decode prog_50_method_11_code 6 = .ok (.iload_n 0, 1) := by decide +kernel
theorem d1_7 : decode prog_50_method_11_code 7 = .ok (.bipush 60, 2) := by decide +kernel
theorem d1_9 : decode prog_50_method_11_code 9 = .ok (.if_icmp .eq 13, 3) := by decide +kernel
theorem d1_22 : decode prog_50_method_11_code 22 = .ok (.iconst 0, 1) := by decide +kernel
theorem d1_12 : decode prog_50_method_11_code 12 = .ok (.iload_n 0, 1) := by decide +kernel
theorem d1_13 : decode prog_50_method_11_code 13 = .ok (.bipush 62, 2) := by decide +kernel
theorem d1_15 : decode prog_50_method_11_code 15 = .ok (.if_icmp .eq 7, 3) := by decide +kernel
theorem d1_18 : decode prog_50_method_11_code 18 = .ok (.iconst 1, 1) := by decide +kernel
theorem d1_19 : decode prog_50_method_11_code 19 = .ok (.goto 4, 3) := by decide +kernel
theorem d1_23 : decode prog_50_method_11_code 23 = .ok (.ireturn, 1) := by decide +kernel
def fIri (u0 : Int32) : Int32 := (bi (((32 : Int32) < u0) ∧ (¬ (u0 = (60 : Int32)) ∧ (¬ (u0 = (62 : Int32))))))
theorem ef_rm1 (m : MethodId) (u0 : Int32) : entryFrame m #[(.int u0)] 1 = mkF m 0 #[.val (.int u0)] [] := by first | (simp [entryFrame, mkF, argsToLocals, Value.category]; done) | rfl
theorem pn_0 : plainName site_75.cls = true := by first | (simp [plainName, overriddenIn]; done) | decide +kernel
def Q_rm1 (Z : State) (u0 : Int32)  (h0 : Heap) (n0 : Nat) (v : Option Value) (h : Heap) (L : List Loc) : Prop := v = some (Value.int (fIri u0)) ∧ Fr n0 L ∧ h = h0
set_option maxRecDepth 65536 in
set_option maxHeartbeats 40000000 in
theorem rm1 (l : Launch) (Z : State) (a0 : Array Value) (hw : ∀ d ∈ tables_1, d.before a0 Z = true) (ws : List Jvm.Cond) (u0 : Int32)  (h0 : Heap) (n0 : Nat) (Z0 : n0 ≤ h0.size)  :
    MetFree l (⟨site_75.cls, "isIriChar", "(C)Z"⟩ : MethodName) (head1 (Jvm.Cond.code (⟨site_75.cls, "isIriChar", "(C)Z"⟩ : MethodName) prog_50_method_11_code 1 (some .boolean) :: ws) ({ frames := 0, cells := 0, slots := 0, locals := 0 } : Room)) (fun a U => a = #[(.int u0)] ∧ Z.Warmed39 U.vm ∧ U.heap = h0) (fun _ _ _ _ _ => True) (fun _ U o U' => ∃ v L, o = .returned v ∧ (Q_rm1 Z u0 h0 n0) v U'.heap L ∧ FrameEnd U o U' L ({ frames := 0, cells := 0, slots := 0, locals := 0 } : Room).cells ({ frames := 0, cells := 0, slots := 0, locals := 0 } : Room).slots) := by
  refine MetFree.of_bodySF (plainFor_of_name pn_0) hisR ?_
  intro p e s m args below meth c s₁ Bd hml0 hP hK
  obtain ⟨rfl, hZ, hh⟩ := hP
  have hx := Bd.exec
  have hby := Bd.bytes
  have hml : c.maxLocals = 1 := hml0
  have hown : s.vm.findClass site_75.cls = some m.cls := findClass_of_methodNamed Bd.named
  have hnm := (name_of_methodNamed Bd.named Bd.method).1
  have X0 : Stand p l e ({ frames := 0, cells := 0, slots := 0, locals := 0 } : Room) s m #[(.int u0)] below meth c s₁ [] 0 0 := Stand.of_body Bd
  have e0 : s₁.heap = h0 := by rw [← hh, Bd.state]; rfl
  have N0 := Fr.nil n0
  show OFin p e below (ORet (Q_rm1 Z u0 h0 n0) s ({ frames := 0, cells := 0, slots := 0, locals := 0 } : Room).cells ({ frames := 0, cells := 0, slots := 0, locals := 0 } : Room).slots) (s₁.setTop (entryFrame m #[(.int u0)] 1))
  refine OFin.go (fun t k => castTop (ef_rm1 m u0) k) ?_
  show OFin p e below (ORet (Q_rm1 Z u0 h0 n0) s ({ frames := 0, cells := 0, slots := 0, locals := 0 } : Room).cells ({ frames := 0, cells := 0, slots := 0, locals := 0 } : Room).slots) (s₁.setTop (mkF m 0 #[.val (.int u0)] []))
  have S1 : ∀ t, Steps p.tables e below (s₁.setTop (mkF m 3 #[.val (.int u0)] [(.int (32 : Int32)), (.int u0)])) t → Steps p.tables e below (s₁.setTop (mkF m 0 #[.val (.int u0)] [])) t := by
    intro t k
    show Steps p.tables e below (s₁.setTop (mkF m 0 #[.val (.int u0)] [])) t
    refine XS.iloadN X0.here hx rfl (hb hby d1_0) rfl ?_
    show Steps p.tables e below (s₁.setTop (mkF m 1 #[.val (.int u0)] [(.int u0)])) t
    refine XS.bipush X0.here hx rfl (hb hby d1_1) ?_
    exact k
  refine OFin.go S1 ?_
  have J2 : ∀ t, Steps p.tables e below (s₁.setTop (mkF m 23 #[.val (.int u0)] [(.int (bi (((32 : Int32) < u0) ∧ (¬ (u0 = (60 : Int32)) ∧ (¬ (u0 = (62 : Int32)))))))])) t → Steps p.tables e below (s₁.setTop (mkF m 3 #[.val (.int u0)] [(.int (32 : Int32)), (.int u0)])) t := by
    intro t k
    show Steps p.tables e below (s₁.setTop (mkF m 3 #[.val (.int u0)] [(.int (32 : Int32)), (.int u0)])) t
    by_cases h3 : ((32 : Int32) < u0)
    · refine XS.icmpNo X0.here hx rfl (hb hby d1_3) rfl (tlt h3).2.2.2 ?_
      show Steps p.tables e below (s₁.setTop (mkF m 6 #[.val (.int u0)] [])) t
      refine XS.iloadN X0.here hx rfl (hb hby d1_6) rfl ?_
      show Steps p.tables e below (s₁.setTop (mkF m 7 #[.val (.int u0)] [(.int u0)])) t
      refine XS.bipush X0.here hx rfl (hb hby d1_7) ?_
      show Steps p.tables e below (s₁.setTop (mkF m 9 #[.val (.int u0)] [(.int (60 : Int32)), (.int u0)])) t
      by_cases h4 : (u0 = (60 : Int32))
      · refine XS.icmpYes X0.here hx rfl (pc0 := 9) (pc' := 22) rfl (hb hby d1_9) rfl (teq h4).1 (by decide) (by decide) ?_
        show Steps p.tables e below (s₁.setTop (mkF m 22 #[.val (.int u0)] [])) t
        refine XS.iconst X0.here hx rfl (hb hby d1_22) ?_
        show Steps p.tables e below (s₁.setTop (mkF m 23 #[.val (.int u0)] [(.int (0 : Int32))])) t
        exact (castTop (congrArg (fun z => (mkF m 23 #[.val (.int u0)] [(.int z)])) (bi_f (fun q => (fun q => q.1 h4) q.2)).symm) k)
      · refine XS.icmpNo X0.here hx rfl (hb hby d1_9) rfl (feq h4).1 ?_
        show Steps p.tables e below (s₁.setTop (mkF m 12 #[.val (.int u0)] [])) t
        refine XS.iloadN X0.here hx rfl (hb hby d1_12) rfl ?_
        show Steps p.tables e below (s₁.setTop (mkF m 13 #[.val (.int u0)] [(.int u0)])) t
        refine XS.bipush X0.here hx rfl (hb hby d1_13) ?_
        show Steps p.tables e below (s₁.setTop (mkF m 15 #[.val (.int u0)] [(.int (62 : Int32)), (.int u0)])) t
        by_cases h5 : (u0 = (62 : Int32))
        · refine XS.icmpYes X0.here hx rfl (pc0 := 15) (pc' := 22) rfl (hb hby d1_15) rfl (teq h5).1 (by decide) (by decide) ?_
          show Steps p.tables e below (s₁.setTop (mkF m 22 #[.val (.int u0)] [])) t
          refine XS.iconst X0.here hx rfl (hb hby d1_22) ?_
          show Steps p.tables e below (s₁.setTop (mkF m 23 #[.val (.int u0)] [(.int (0 : Int32))])) t
          exact (castTop (congrArg (fun z => (mkF m 23 #[.val (.int u0)] [(.int z)])) (bi_f (fun q => (fun q => (fun q => q h5) q.2) q.2)).symm) k)
        · refine XS.icmpNo X0.here hx rfl (hb hby d1_15) rfl (feq h5).1 ?_
          show Steps p.tables e below (s₁.setTop (mkF m 18 #[.val (.int u0)] [])) t
          refine XS.iconst X0.here hx rfl (hb hby d1_18) ?_
          show Steps p.tables e below (s₁.setTop (mkF m 19 #[.val (.int u0)] [(.int (1 : Int32))])) t
          refine XS.goto X0.here hx rfl (pc0 := 19) (pc' := 23) rfl (hb hby d1_19) (by decide) (by decide) ?_
          show Steps p.tables e below (s₁.setTop (mkF m 23 #[.val (.int u0)] [(.int (1 : Int32))])) t
          exact (castTop (congrArg (fun z => (mkF m 23 #[.val (.int u0)] [(.int z)])) (bi_t ⟨h3, ⟨h4, h5⟩⟩).symm) k)
    · refine XS.icmpYes X0.here hx rfl (pc0 := 3) (pc' := 22) rfl (hb hby d1_3) rfl (flt h3).2.2.2 (by decide) (by decide) ?_
      show Steps p.tables e below (s₁.setTop (mkF m 22 #[.val (.int u0)] [])) t
      refine XS.iconst X0.here hx rfl (hb hby d1_22) ?_
      show Steps p.tables e below (s₁.setTop (mkF m 23 #[.val (.int u0)] [(.int (0 : Int32))])) t
      exact (castTop (congrArg (fun z => (mkF m 23 #[.val (.int u0)] [(.int z)])) (bi_f (fun q => h3 q.1)).symm) k)
  refine OFin.go J2 ?_
  exact finZ X0 hx Bd.notSynchronized (t := .boolean) Bd.returns (by simp) (hb hby d1_23) (nar_bi _) (by decide) (by decide) (⟨congrArg (fun z => some (Value.int z)) (show (bi (((32 : Int32) < u0) ∧ (¬ (u0 = (60 : Int32)) ∧ (¬ (u0 = (62 : Int32)))))) = (bi (((32 : Int32) < u0) ∧ (¬ (u0 = (60 : Int32)) ∧ (¬ (u0 = (62 : Int32)))))) by rfl : (bi (((32 : Int32) < u0) ∧ (¬ (u0 = (60 : Int32)) ∧ (¬ (u0 = (62 : Int32)))))) = (fIri u0)), N0, e0⟩)
theorem ef_rm0 (m : MethodId) (u0 : Int32) : entryFrame m #[(.int u0)] maxLocals = mkF m 0 #[.val (.int u0), .unset, .unset, .unset, .unset, .unset] [] := by first | (simp [entryFrame, mkF, argsToLocals, Value.category, maxLocals]; done) | rfl
theorem pn_1 : plainName x.cls = true := by first | (simp [plainName, overriddenIn]; done) | decide +kernel
def Q_rm0 (Z : State) (u0 : Int32)  (h0 : Heap) (n0 : Nat) (v : Option Value) (h : Heap) (L : List Loc) : Prop := v = some (.int (1 : Int32)) ∧ Fr n0 L
theorem pd_0 : parseMethodDescriptor "(C)Z" = some ⟨[.char], some .boolean⟩ := by decide +kernel
theorem own_law (u0 : Int32)  (g0 : ¬ ((u0.toUInt32.toUInt16.toUInt32.toInt32) = (127 : Int32))) : ((fIri (u0.toUInt32.toUInt16.toUInt32.toInt32)) = (bi (¬ ((u0.toUInt32.toUInt16.toUInt32.toInt32) < (32 : Int32)) ∧ (¬ ((u0.toUInt32.toUInt16.toUInt32.toInt32) = (32 : Int32)) ∧ (¬ (((u0.toUInt32.toUInt16.toUInt32.toInt32) = (60 : Int32)) ∨ ((u0.toUInt32.toUInt16.toUInt32.toInt32) = (62 : Int32)))))))) := by
  unfold fIri
  rw [bi_iff]
  generalize u0.toUInt32.toUInt16.toUInt32.toInt32 = c
  simp only [Int32.lt_iff_toInt_lt, ← Int32.toInt_inj]
  simp only [Int32.reduceToInt]
  omega
set_option maxRecDepth 65536 in
set_option maxHeartbeats 40000000 in
theorem rm0 (l : Launch) (Z : State) (a0 : Array Value) (hw : ∀ d ∈ tables_1, d.before a0 Z = true) (ws : List Jvm.Cond) (u0 : Int32)  (h0 : Heap) (n0 : Nat) (Z0 : n0 ≤ h0.size)  :
    MetFree l x (head1 (Jvm.Cond.code x code maxLocals ret :: ws) room_1) (fun a U => a = #[(.int u0)] ∧ Z.Warmed39 U.vm ∧ U.heap = h0) (fun _ _ _ _ _ => True) (fun _ U o U' => ∃ v L, o = .returned v ∧ (Q_rm0 Z u0 h0 n0) v U'.heap L ∧ FrameEnd U o U' L 0 0) := by
  refine MetFree.of_bodySF (plainFor_of_name pn_1) hisR ?_
  intro p e s m args below meth c s₁ Bd hml0 hP hK
  obtain ⟨rfl, hZ, hh⟩ := hP
  have hx := Bd.exec
  have hby := Bd.bytes
  have hml : c.maxLocals = 6 := hml0
  have hown : s.vm.findClass x.cls = some m.cls := findClass_of_methodNamed Bd.named
  have hnm := (name_of_methodNamed Bd.named Bd.method).1
  have X0 : Stand p l e room_1 s m #[(.int u0)] below meth c s₁ [] 0 0 := Stand.of_body Bd
  have e0 : s₁.heap = h0 := by rw [← hh, Bd.state]; rfl
  have N0 := Fr.nil n0
  show OFin p e below (ORet (Q_rm0 Z u0 h0 n0) s 0 0) (s₁.setTop (entryFrame m #[(.int u0)] maxLocals))
  refine OFin.go (fun t k => castTop (ef_rm0 m u0) k) ?_
  show OFin p e below (ORet (Q_rm0 Z u0 h0 n0) s 0 0) (s₁.setTop (mkF m 0 #[.val (.int u0), .unset, .unset, .unset, .unset, .unset] []))
  have S1 : ∀ t, Steps p.tables e below (s₁.setTop (mkF m 6 #[.val (.int u0), .val (.int (u0.toUInt32.toUInt16.toUInt32.toInt32)), .unset, .unset, .unset, .unset] [(.int (127 : Int32)), (.int (u0.toUInt32.toUInt16.toUInt32.toInt32))])) t → Steps p.tables e below (s₁.setTop (mkF m 0 #[.val (.int u0), .unset, .unset, .unset, .unset, .unset] [])) t := by
    intro t k
    show Steps p.tables e below (s₁.setTop (mkF m 0 #[.val (.int u0), .unset, .unset, .unset, .unset, .unset] [])) t
    refine XS.iloadN X0.here hx rfl (hb hby at_0) rfl ?_
    show Steps p.tables e below (s₁.setTop (mkF m 1 #[.val (.int u0), .unset, .unset, .unset, .unset, .unset] [(.int u0)])) t
    refine XS.i2c X0.here hx rfl (hb hby at_1) rfl ?_
    show Steps p.tables e below (s₁.setTop (mkF m 2 #[.val (.int u0), .unset, .unset, .unset, .unset, .unset] [(.int (u0.toUInt32.toUInt16.toUInt32.toInt32))])) t
    refine XS.istoreN X0.here hx rfl (hb hby at_2) rfl (l' := #[.val (.int u0), .val (.int (u0.toUInt32.toUInt16.toUInt32.toInt32)), .unset, .unset, .unset, .unset]) rfl ?_
    show Steps p.tables e below (s₁.setTop (mkF m 3 #[.val (.int u0), .val (.int (u0.toUInt32.toUInt16.toUInt32.toInt32)), .unset, .unset, .unset, .unset] [])) t
    refine XS.iloadN X0.here hx rfl (hb hby at_3) rfl ?_
    show Steps p.tables e below (s₁.setTop (mkF m 4 #[.val (.int u0), .val (.int (u0.toUInt32.toUInt16.toUInt32.toInt32)), .unset, .unset, .unset, .unset] [(.int (u0.toUInt32.toUInt16.toUInt32.toInt32))])) t
    refine XS.bipush X0.here hx rfl (hb hby at_4) ?_
    exact k
  refine OFin.go S1 ?_
  by_cases h2 : ((u0.toUInt32.toUInt16.toUInt32.toInt32) = (127 : Int32))
  · -- pc 6: ((u0.toUInt32.toUInt16.toUInt32.toInt32) = (127 : Int32))
    have S3 : ∀ t, Steps p.tables e below (s₁.setTop (mkF m 9 #[.val (.int u0), .val (.int (u0.toUInt32.toUInt16.toUInt32.toInt32)), .unset, .unset, .unset, .unset] [])) t → Steps p.tables e below (s₁.setTop (mkF m 6 #[.val (.int u0), .val (.int (u0.toUInt32.toUInt16.toUInt32.toInt32)), .unset, .unset, .unset, .unset] [(.int (127 : Int32)), (.int (u0.toUInt32.toUInt16.toUInt32.toInt32))])) t := by
      intro t k
      show Steps p.tables e below (s₁.setTop (mkF m 6 #[.val (.int u0), .val (.int (u0.toUInt32.toUInt16.toUInt32.toInt32)), .unset, .unset, .unset, .unset] [(.int (127 : Int32)), (.int (u0.toUInt32.toUInt16.toUInt32.toInt32))])) t
      refine XS.icmpNo X0.here hx rfl (hb hby at_6) rfl (teq h2).2 ?_
      exact k
    refine OFin.go S3 ?_
    have S4 : ∀ t, Steps p.tables e below (s₁.setTop (mkF m 10 #[.val (.int u0), .val (.int (u0.toUInt32.toUInt16.toUInt32.toInt32)), .unset, .unset, .unset, .unset] [(.int (1 : Int32))])) t → Steps p.tables e below (s₁.setTop (mkF m 9 #[.val (.int u0), .val (.int (u0.toUInt32.toUInt16.toUInt32.toInt32)), .unset, .unset, .unset, .unset] [])) t := by
      intro t k
      show Steps p.tables e below (s₁.setTop (mkF m 9 #[.val (.int u0), .val (.int (u0.toUInt32.toUInt16.toUInt32.toInt32)), .unset, .unset, .unset, .unset] [])) t
      refine XS.iconst X0.here hx rfl (hb hby at_9) ?_
      exact k
    refine OFin.go S4 ?_
    exact finZ X0 hx Bd.notSynchronized (t := .boolean) Bd.returns (by simp) (hb hby at_10) rfl (by decide) (by decide) (⟨congrArg (fun z => some (Value.int z)) (rfl : (1 : Int32) = (1 : Int32)), N0⟩)
  · -- pc 6: not ((u0.toUInt32.toUInt16.toUInt32.toInt32) = (127 : Int32))
    have S5 : ∀ t, Steps p.tables e below (s₁.setTop (mkF m 11 #[.val (.int u0), .val (.int (u0.toUInt32.toUInt16.toUInt32.toInt32)), .unset, .unset, .unset, .unset] [])) t → Steps p.tables e below (s₁.setTop (mkF m 6 #[.val (.int u0), .val (.int (u0.toUInt32.toUInt16.toUInt32.toInt32)), .unset, .unset, .unset, .unset] [(.int (127 : Int32)), (.int (u0.toUInt32.toUInt16.toUInt32.toInt32))])) t := by
      intro t k
      show Steps p.tables e below (s₁.setTop (mkF m 6 #[.val (.int u0), .val (.int (u0.toUInt32.toUInt16.toUInt32.toInt32)), .unset, .unset, .unset, .unset] [(.int (127 : Int32)), (.int (u0.toUInt32.toUInt16.toUInt32.toInt32))])) t
      refine XS.icmpYes X0.here hx rfl (pc0 := 6) (pc' := 11) rfl (hb hby at_6) rfl (feq h2).2 (by decide) (by decide) ?_
      exact k
    refine OFin.go S5 ?_
    have S6 : ∀ t, Steps p.tables e below (s₁.setTop (mkF m 14 #[.val (.int u0), .val (.int (u0.toUInt32.toUInt16.toUInt32.toInt32)), .unset, .unset, .unset, .unset] [(.int (32 : Int32)), (.int (u0.toUInt32.toUInt16.toUInt32.toInt32))])) t → Steps p.tables e below (s₁.setTop (mkF m 11 #[.val (.int u0), .val (.int (u0.toUInt32.toUInt16.toUInt32.toInt32)), .unset, .unset, .unset, .unset] [])) t := by
      intro t k
      show Steps p.tables e below (s₁.setTop (mkF m 11 #[.val (.int u0), .val (.int (u0.toUInt32.toUInt16.toUInt32.toInt32)), .unset, .unset, .unset, .unset] [])) t
      refine XS.iloadN X0.here hx rfl (hb hby at_11) rfl ?_
      show Steps p.tables e below (s₁.setTop (mkF m 12 #[.val (.int u0), .val (.int (u0.toUInt32.toUInt16.toUInt32.toInt32)), .unset, .unset, .unset, .unset] [(.int (u0.toUInt32.toUInt16.toUInt32.toInt32))])) t
      refine XS.bipush X0.here hx rfl (hb hby at_12) ?_
      exact k
    refine OFin.go S6 ?_
    have J7 : ∀ t, Steps p.tables e below (s₁.setTop (mkF m 22 #[.val (.int u0), .val (.int (u0.toUInt32.toUInt16.toUInt32.toInt32)), .unset, .unset, .unset, .unset] [(.int (bi ((u0.toUInt32.toUInt16.toUInt32.toInt32) < (32 : Int32))))])) t → Steps p.tables e below (s₁.setTop (mkF m 14 #[.val (.int u0), .val (.int (u0.toUInt32.toUInt16.toUInt32.toInt32)), .unset, .unset, .unset, .unset] [(.int (32 : Int32)), (.int (u0.toUInt32.toUInt16.toUInt32.toInt32))])) t := by
      intro t k
      show Steps p.tables e below (s₁.setTop (mkF m 14 #[.val (.int u0), .val (.int (u0.toUInt32.toUInt16.toUInt32.toInt32)), .unset, .unset, .unset, .unset] [(.int (32 : Int32)), (.int (u0.toUInt32.toUInt16.toUInt32.toInt32))])) t
      by_cases h8 : ((u0.toUInt32.toUInt16.toUInt32.toInt32) < (32 : Int32))
      · refine XS.icmpNo X0.here hx rfl (hb hby at_14) rfl (tlt h8).2.1 ?_
        show Steps p.tables e below (s₁.setTop (mkF m 17 #[.val (.int u0), .val (.int (u0.toUInt32.toUInt16.toUInt32.toInt32)), .unset, .unset, .unset, .unset] [])) t
        refine XS.iconst X0.here hx rfl (hb hby at_17) ?_
        show Steps p.tables e below (s₁.setTop (mkF m 18 #[.val (.int u0), .val (.int (u0.toUInt32.toUInt16.toUInt32.toInt32)), .unset, .unset, .unset, .unset] [(.int (1 : Int32))])) t
        refine XS.goto X0.here hx rfl (pc0 := 18) (pc' := 22) rfl (hb hby at_18) (by decide) (by decide) ?_
        show Steps p.tables e below (s₁.setTop (mkF m 22 #[.val (.int u0), .val (.int (u0.toUInt32.toUInt16.toUInt32.toInt32)), .unset, .unset, .unset, .unset] [(.int (1 : Int32))])) t
        exact (castTop (congrArg (fun z => (mkF m 22 #[.val (.int u0), .val (.int (u0.toUInt32.toUInt16.toUInt32.toInt32)), .unset, .unset, .unset, .unset] [(.int z)])) (bi_t h8).symm) k)
      · refine XS.icmpYes X0.here hx rfl (pc0 := 14) (pc' := 21) rfl (hb hby at_14) rfl (flt h8).2.1 (by decide) (by decide) ?_
        show Steps p.tables e below (s₁.setTop (mkF m 21 #[.val (.int u0), .val (.int (u0.toUInt32.toUInt16.toUInt32.toInt32)), .unset, .unset, .unset, .unset] [])) t
        refine XS.iconst X0.here hx rfl (hb hby at_21) ?_
        show Steps p.tables e below (s₁.setTop (mkF m 22 #[.val (.int u0), .val (.int (u0.toUInt32.toUInt16.toUInt32.toInt32)), .unset, .unset, .unset, .unset] [(.int (0 : Int32))])) t
        exact (castTop (congrArg (fun z => (mkF m 22 #[.val (.int u0), .val (.int (u0.toUInt32.toUInt16.toUInt32.toInt32)), .unset, .unset, .unset, .unset] [(.int z)])) (bi_f h8).symm) k)
    refine OFin.go J7 ?_
    have S9 : ∀ t, Steps p.tables e below (s₁.setTop (mkF m 26 #[.val (.int u0), .val (.int (u0.toUInt32.toUInt16.toUInt32.toInt32)), .val (.int (bi ((u0.toUInt32.toUInt16.toUInt32.toInt32) < (32 : Int32)))), .unset, .unset, .unset] [(.int (32 : Int32)), (.int (u0.toUInt32.toUInt16.toUInt32.toInt32))])) t → Steps p.tables e below (s₁.setTop (mkF m 22 #[.val (.int u0), .val (.int (u0.toUInt32.toUInt16.toUInt32.toInt32)), .unset, .unset, .unset, .unset] [(.int (bi ((u0.toUInt32.toUInt16.toUInt32.toInt32) < (32 : Int32))))])) t := by
      intro t k
      show Steps p.tables e below (s₁.setTop (mkF m 22 #[.val (.int u0), .val (.int (u0.toUInt32.toUInt16.toUInt32.toInt32)), .unset, .unset, .unset, .unset] [(.int (bi ((u0.toUInt32.toUInt16.toUInt32.toInt32) < (32 : Int32))))])) t
      refine XS.istoreN X0.here hx rfl (hb hby at_22) rfl (l' := #[.val (.int u0), .val (.int (u0.toUInt32.toUInt16.toUInt32.toInt32)), .val (.int (bi ((u0.toUInt32.toUInt16.toUInt32.toInt32) < (32 : Int32)))), .unset, .unset, .unset]) rfl ?_
      show Steps p.tables e below (s₁.setTop (mkF m 23 #[.val (.int u0), .val (.int (u0.toUInt32.toUInt16.toUInt32.toInt32)), .val (.int (bi ((u0.toUInt32.toUInt16.toUInt32.toInt32) < (32 : Int32)))), .unset, .unset, .unset] [])) t
      refine XS.iloadN X0.here hx rfl (hb hby at_23) rfl ?_
      show Steps p.tables e below (s₁.setTop (mkF m 24 #[.val (.int u0), .val (.int (u0.toUInt32.toUInt16.toUInt32.toInt32)), .val (.int (bi ((u0.toUInt32.toUInt16.toUInt32.toInt32) < (32 : Int32)))), .unset, .unset, .unset] [(.int (u0.toUInt32.toUInt16.toUInt32.toInt32))])) t
      refine XS.bipush X0.here hx rfl (hb hby at_24) ?_
      exact k
    refine OFin.go S9 ?_
    have J10 : ∀ t, Steps p.tables e below (s₁.setTop (mkF m 34 #[.val (.int u0), .val (.int (u0.toUInt32.toUInt16.toUInt32.toInt32)), .val (.int (bi ((u0.toUInt32.toUInt16.toUInt32.toInt32) < (32 : Int32)))), .unset, .unset, .unset] [(.int (bi ((u0.toUInt32.toUInt16.toUInt32.toInt32) = (32 : Int32))))])) t → Steps p.tables e below (s₁.setTop (mkF m 26 #[.val (.int u0), .val (.int (u0.toUInt32.toUInt16.toUInt32.toInt32)), .val (.int (bi ((u0.toUInt32.toUInt16.toUInt32.toInt32) < (32 : Int32)))), .unset, .unset, .unset] [(.int (32 : Int32)), (.int (u0.toUInt32.toUInt16.toUInt32.toInt32))])) t := by
      intro t k
      show Steps p.tables e below (s₁.setTop (mkF m 26 #[.val (.int u0), .val (.int (u0.toUInt32.toUInt16.toUInt32.toInt32)), .val (.int (bi ((u0.toUInt32.toUInt16.toUInt32.toInt32) < (32 : Int32)))), .unset, .unset, .unset] [(.int (32 : Int32)), (.int (u0.toUInt32.toUInt16.toUInt32.toInt32))])) t
      by_cases h11 : ((u0.toUInt32.toUInt16.toUInt32.toInt32) = (32 : Int32))
      · refine XS.icmpNo X0.here hx rfl (hb hby at_26) rfl (teq h11).2 ?_
        show Steps p.tables e below (s₁.setTop (mkF m 29 #[.val (.int u0), .val (.int (u0.toUInt32.toUInt16.toUInt32.toInt32)), .val (.int (bi ((u0.toUInt32.toUInt16.toUInt32.toInt32) < (32 : Int32)))), .unset, .unset, .unset] [])) t
        refine XS.iconst X0.here hx rfl (hb hby at_29) ?_
        show Steps p.tables e below (s₁.setTop (mkF m 30 #[.val (.int u0), .val (.int (u0.toUInt32.toUInt16.toUInt32.toInt32)), .val (.int (bi ((u0.toUInt32.toUInt16.toUInt32.toInt32) < (32 : Int32)))), .unset, .unset, .unset] [(.int (1 : Int32))])) t
        refine XS.goto X0.here hx rfl (pc0 := 30) (pc' := 34) rfl (hb hby at_30) (by decide) (by decide) ?_
        show Steps p.tables e below (s₁.setTop (mkF m 34 #[.val (.int u0), .val (.int (u0.toUInt32.toUInt16.toUInt32.toInt32)), .val (.int (bi ((u0.toUInt32.toUInt16.toUInt32.toInt32) < (32 : Int32)))), .unset, .unset, .unset] [(.int (1 : Int32))])) t
        exact (castTop (congrArg (fun z => (mkF m 34 #[.val (.int u0), .val (.int (u0.toUInt32.toUInt16.toUInt32.toInt32)), .val (.int (bi ((u0.toUInt32.toUInt16.toUInt32.toInt32) < (32 : Int32)))), .unset, .unset, .unset] [(.int z)])) (bi_t h11).symm) k)
      · refine XS.icmpYes X0.here hx rfl (pc0 := 26) (pc' := 33) rfl (hb hby at_26) rfl (feq h11).2 (by decide) (by decide) ?_
        show Steps p.tables e below (s₁.setTop (mkF m 33 #[.val (.int u0), .val (.int (u0.toUInt32.toUInt16.toUInt32.toInt32)), .val (.int (bi ((u0.toUInt32.toUInt16.toUInt32.toInt32) < (32 : Int32)))), .unset, .unset, .unset] [])) t
        refine XS.iconst X0.here hx rfl (hb hby at_33) ?_
        show Steps p.tables e below (s₁.setTop (mkF m 34 #[.val (.int u0), .val (.int (u0.toUInt32.toUInt16.toUInt32.toInt32)), .val (.int (bi ((u0.toUInt32.toUInt16.toUInt32.toInt32) < (32 : Int32)))), .unset, .unset, .unset] [(.int (0 : Int32))])) t
        exact (castTop (congrArg (fun z => (mkF m 34 #[.val (.int u0), .val (.int (u0.toUInt32.toUInt16.toUInt32.toInt32)), .val (.int (bi ((u0.toUInt32.toUInt16.toUInt32.toInt32) < (32 : Int32)))), .unset, .unset, .unset] [(.int z)])) (bi_f h11).symm) k)
    refine OFin.go J10 ?_
    have S12 : ∀ t, Steps p.tables e below (s₁.setTop (mkF m 38 #[.val (.int u0), .val (.int (u0.toUInt32.toUInt16.toUInt32.toInt32)), .val (.int (bi ((u0.toUInt32.toUInt16.toUInt32.toInt32) < (32 : Int32)))), .val (.int (bi ((u0.toUInt32.toUInt16.toUInt32.toInt32) = (32 : Int32)))), .unset, .unset] [(.int (60 : Int32)), (.int (u0.toUInt32.toUInt16.toUInt32.toInt32))])) t → Steps p.tables e below (s₁.setTop (mkF m 34 #[.val (.int u0), .val (.int (u0.toUInt32.toUInt16.toUInt32.toInt32)), .val (.int (bi ((u0.toUInt32.toUInt16.toUInt32.toInt32) < (32 : Int32)))), .unset, .unset, .unset] [(.int (bi ((u0.toUInt32.toUInt16.toUInt32.toInt32) = (32 : Int32))))])) t := by
      intro t k
      show Steps p.tables e below (s₁.setTop (mkF m 34 #[.val (.int u0), .val (.int (u0.toUInt32.toUInt16.toUInt32.toInt32)), .val (.int (bi ((u0.toUInt32.toUInt16.toUInt32.toInt32) < (32 : Int32)))), .unset, .unset, .unset] [(.int (bi ((u0.toUInt32.toUInt16.toUInt32.toInt32) = (32 : Int32))))])) t
      refine XS.istoreN X0.here hx rfl (hb hby at_34) rfl (l' := #[.val (.int u0), .val (.int (u0.toUInt32.toUInt16.toUInt32.toInt32)), .val (.int (bi ((u0.toUInt32.toUInt16.toUInt32.toInt32) < (32 : Int32)))), .val (.int (bi ((u0.toUInt32.toUInt16.toUInt32.toInt32) = (32 : Int32)))), .unset, .unset]) rfl ?_
      show Steps p.tables e below (s₁.setTop (mkF m 35 #[.val (.int u0), .val (.int (u0.toUInt32.toUInt16.toUInt32.toInt32)), .val (.int (bi ((u0.toUInt32.toUInt16.toUInt32.toInt32) < (32 : Int32)))), .val (.int (bi ((u0.toUInt32.toUInt16.toUInt32.toInt32) = (32 : Int32)))), .unset, .unset] [])) t
      refine XS.iloadN X0.here hx rfl (hb hby at_35) rfl ?_
      show Steps p.tables e below (s₁.setTop (mkF m 36 #[.val (.int u0), .val (.int (u0.toUInt32.toUInt16.toUInt32.toInt32)), .val (.int (bi ((u0.toUInt32.toUInt16.toUInt32.toInt32) < (32 : Int32)))), .val (.int (bi ((u0.toUInt32.toUInt16.toUInt32.toInt32) = (32 : Int32)))), .unset, .unset] [(.int (u0.toUInt32.toUInt16.toUInt32.toInt32))])) t
      refine XS.bipush X0.here hx rfl (hb hby at_36) ?_
      exact k
    refine OFin.go S12 ?_
    have J13 : ∀ t, Steps p.tables e below (s₁.setTop (mkF m 52 #[.val (.int u0), .val (.int (u0.toUInt32.toUInt16.toUInt32.toInt32)), .val (.int (bi ((u0.toUInt32.toUInt16.toUInt32.toInt32) < (32 : Int32)))), .val (.int (bi ((u0.toUInt32.toUInt16.toUInt32.toInt32) = (32 : Int32)))), .unset, .unset] [(.int (bi (((u0.toUInt32.toUInt16.toUInt32.toInt32) = (60 : Int32)) ∨ ((u0.toUInt32.toUInt16.toUInt32.toInt32) = (62 : Int32)))))])) t → Steps p.tables e below (s₁.setTop (mkF m 38 #[.val (.int u0), .val (.int (u0.toUInt32.toUInt16.toUInt32.toInt32)), .val (.int (bi ((u0.toUInt32.toUInt16.toUInt32.toInt32) < (32 : Int32)))), .val (.int (bi ((u0.toUInt32.toUInt16.toUInt32.toInt32) = (32 : Int32)))), .unset, .unset] [(.int (60 : Int32)), (.int (u0.toUInt32.toUInt16.toUInt32.toInt32))])) t := by
      intro t k
      show Steps p.tables e below (s₁.setTop (mkF m 38 #[.val (.int u0), .val (.int (u0.toUInt32.toUInt16.toUInt32.toInt32)), .val (.int (bi ((u0.toUInt32.toUInt16.toUInt32.toInt32) < (32 : Int32)))), .val (.int (bi ((u0.toUInt32.toUInt16.toUInt32.toInt32) = (32 : Int32)))), .unset, .unset] [(.int (60 : Int32)), (.int (u0.toUInt32.toUInt16.toUInt32.toInt32))])) t
      by_cases h14 : ((u0.toUInt32.toUInt16.toUInt32.toInt32) = (60 : Int32))
      · refine XS.icmpYes X0.here hx rfl (pc0 := 38) (pc' := 47) rfl (hb hby at_38) rfl (teq h14).1 (by decide) (by decide) ?_
        show Steps p.tables e below (s₁.setTop (mkF m 47 #[.val (.int u0), .val (.int (u0.toUInt32.toUInt16.toUInt32.toInt32)), .val (.int (bi ((u0.toUInt32.toUInt16.toUInt32.toInt32) < (32 : Int32)))), .val (.int (bi ((u0.toUInt32.toUInt16.toUInt32.toInt32) = (32 : Int32)))), .unset, .unset] [])) t
        refine XS.iconst X0.here hx rfl (hb hby at_47) ?_
        show Steps p.tables e below (s₁.setTop (mkF m 48 #[.val (.int u0), .val (.int (u0.toUInt32.toUInt16.toUInt32.toInt32)), .val (.int (bi ((u0.toUInt32.toUInt16.toUInt32.toInt32) < (32 : Int32)))), .val (.int (bi ((u0.toUInt32.toUInt16.toUInt32.toInt32) = (32 : Int32)))), .unset, .unset] [(.int (1 : Int32))])) t
        refine XS.goto X0.here hx rfl (pc0 := 48) (pc' := 52) rfl (hb hby at_48) (by decide) (by decide) ?_
        show Steps p.tables e below (s₁.setTop (mkF m 52 #[.val (.int u0), .val (.int (u0.toUInt32.toUInt16.toUInt32.toInt32)), .val (.int (bi ((u0.toUInt32.toUInt16.toUInt32.toInt32) < (32 : Int32)))), .val (.int (bi ((u0.toUInt32.toUInt16.toUInt32.toInt32) = (32 : Int32)))), .unset, .unset] [(.int (1 : Int32))])) t
        exact (castTop (congrArg (fun z => (mkF m 52 #[.val (.int u0), .val (.int (u0.toUInt32.toUInt16.toUInt32.toInt32)), .val (.int (bi ((u0.toUInt32.toUInt16.toUInt32.toInt32) < (32 : Int32)))), .val (.int (bi ((u0.toUInt32.toUInt16.toUInt32.toInt32) = (32 : Int32)))), .unset, .unset] [(.int z)])) (bi_t (Or.inl h14)).symm) k)
      · refine XS.icmpNo X0.here hx rfl (hb hby at_38) rfl (feq h14).1 ?_
        show Steps p.tables e below (s₁.setTop (mkF m 41 #[.val (.int u0), .val (.int (u0.toUInt32.toUInt16.toUInt32.toInt32)), .val (.int (bi ((u0.toUInt32.toUInt16.toUInt32.toInt32) < (32 : Int32)))), .val (.int (bi ((u0.toUInt32.toUInt16.toUInt32.toInt32) = (32 : Int32)))), .unset, .unset] [])) t
        refine XS.iloadN X0.here hx rfl (hb hby at_41) rfl ?_
        show Steps p.tables e below (s₁.setTop (mkF m 42 #[.val (.int u0), .val (.int (u0.toUInt32.toUInt16.toUInt32.toInt32)), .val (.int (bi ((u0.toUInt32.toUInt16.toUInt32.toInt32) < (32 : Int32)))), .val (.int (bi ((u0.toUInt32.toUInt16.toUInt32.toInt32) = (32 : Int32)))), .unset, .unset] [(.int (u0.toUInt32.toUInt16.toUInt32.toInt32))])) t
        refine XS.bipush X0.here hx rfl (hb hby at_42) ?_
        show Steps p.tables e below (s₁.setTop (mkF m 44 #[.val (.int u0), .val (.int (u0.toUInt32.toUInt16.toUInt32.toInt32)), .val (.int (bi ((u0.toUInt32.toUInt16.toUInt32.toInt32) < (32 : Int32)))), .val (.int (bi ((u0.toUInt32.toUInt16.toUInt32.toInt32) = (32 : Int32)))), .unset, .unset] [(.int (62 : Int32)), (.int (u0.toUInt32.toUInt16.toUInt32.toInt32))])) t
        by_cases h15 : ((u0.toUInt32.toUInt16.toUInt32.toInt32) = (62 : Int32))
        · refine XS.icmpNo X0.here hx rfl (hb hby at_44) rfl (teq h15).2 ?_
          show Steps p.tables e below (s₁.setTop (mkF m 47 #[.val (.int u0), .val (.int (u0.toUInt32.toUInt16.toUInt32.toInt32)), .val (.int (bi ((u0.toUInt32.toUInt16.toUInt32.toInt32) < (32 : Int32)))), .val (.int (bi ((u0.toUInt32.toUInt16.toUInt32.toInt32) = (32 : Int32)))), .unset, .unset] [])) t
          refine XS.iconst X0.here hx rfl (hb hby at_47) ?_
          show Steps p.tables e below (s₁.setTop (mkF m 48 #[.val (.int u0), .val (.int (u0.toUInt32.toUInt16.toUInt32.toInt32)), .val (.int (bi ((u0.toUInt32.toUInt16.toUInt32.toInt32) < (32 : Int32)))), .val (.int (bi ((u0.toUInt32.toUInt16.toUInt32.toInt32) = (32 : Int32)))), .unset, .unset] [(.int (1 : Int32))])) t
          refine XS.goto X0.here hx rfl (pc0 := 48) (pc' := 52) rfl (hb hby at_48) (by decide) (by decide) ?_
          show Steps p.tables e below (s₁.setTop (mkF m 52 #[.val (.int u0), .val (.int (u0.toUInt32.toUInt16.toUInt32.toInt32)), .val (.int (bi ((u0.toUInt32.toUInt16.toUInt32.toInt32) < (32 : Int32)))), .val (.int (bi ((u0.toUInt32.toUInt16.toUInt32.toInt32) = (32 : Int32)))), .unset, .unset] [(.int (1 : Int32))])) t
          exact (castTop (congrArg (fun z => (mkF m 52 #[.val (.int u0), .val (.int (u0.toUInt32.toUInt16.toUInt32.toInt32)), .val (.int (bi ((u0.toUInt32.toUInt16.toUInt32.toInt32) < (32 : Int32)))), .val (.int (bi ((u0.toUInt32.toUInt16.toUInt32.toInt32) = (32 : Int32)))), .unset, .unset] [(.int z)])) (bi_t (Or.inr h15)).symm) k)
        · refine XS.icmpYes X0.here hx rfl (pc0 := 44) (pc' := 51) rfl (hb hby at_44) rfl (feq h15).2 (by decide) (by decide) ?_
          show Steps p.tables e below (s₁.setTop (mkF m 51 #[.val (.int u0), .val (.int (u0.toUInt32.toUInt16.toUInt32.toInt32)), .val (.int (bi ((u0.toUInt32.toUInt16.toUInt32.toInt32) < (32 : Int32)))), .val (.int (bi ((u0.toUInt32.toUInt16.toUInt32.toInt32) = (32 : Int32)))), .unset, .unset] [])) t
          refine XS.iconst X0.here hx rfl (hb hby at_51) ?_
          show Steps p.tables e below (s₁.setTop (mkF m 52 #[.val (.int u0), .val (.int (u0.toUInt32.toUInt16.toUInt32.toInt32)), .val (.int (bi ((u0.toUInt32.toUInt16.toUInt32.toInt32) < (32 : Int32)))), .val (.int (bi ((u0.toUInt32.toUInt16.toUInt32.toInt32) = (32 : Int32)))), .unset, .unset] [(.int (0 : Int32))])) t
          exact (castTop (congrArg (fun z => (mkF m 52 #[.val (.int u0), .val (.int (u0.toUInt32.toUInt16.toUInt32.toInt32)), .val (.int (bi ((u0.toUInt32.toUInt16.toUInt32.toInt32) < (32 : Int32)))), .val (.int (bi ((u0.toUInt32.toUInt16.toUInt32.toInt32) = (32 : Int32)))), .unset, .unset] [(.int z)])) (bi_f (fun q => q.elim h14 h15)).symm) k)
    refine OFin.go J13 ?_
    have S16 : ∀ t, Steps p.tables e below (s₁.setTop (mkF m 55 #[.val (.int u0), .val (.int (u0.toUInt32.toUInt16.toUInt32.toInt32)), .val (.int (bi ((u0.toUInt32.toUInt16.toUInt32.toInt32) < (32 : Int32)))), .val (.int (bi ((u0.toUInt32.toUInt16.toUInt32.toInt32) = (32 : Int32)))), .val (.int (bi (((u0.toUInt32.toUInt16.toUInt32.toInt32) = (60 : Int32)) ∨ ((u0.toUInt32.toUInt16.toUInt32.toInt32) = (62 : Int32))))), .unset] [(.int (bi ((u0.toUInt32.toUInt16.toUInt32.toInt32) < (32 : Int32))))])) t → Steps p.tables e below (s₁.setTop (mkF m 52 #[.val (.int u0), .val (.int (u0.toUInt32.toUInt16.toUInt32.toInt32)), .val (.int (bi ((u0.toUInt32.toUInt16.toUInt32.toInt32) < (32 : Int32)))), .val (.int (bi ((u0.toUInt32.toUInt16.toUInt32.toInt32) = (32 : Int32)))), .unset, .unset] [(.int (bi (((u0.toUInt32.toUInt16.toUInt32.toInt32) = (60 : Int32)) ∨ ((u0.toUInt32.toUInt16.toUInt32.toInt32) = (62 : Int32)))))])) t := by
      intro t k
      show Steps p.tables e below (s₁.setTop (mkF m 52 #[.val (.int u0), .val (.int (u0.toUInt32.toUInt16.toUInt32.toInt32)), .val (.int (bi ((u0.toUInt32.toUInt16.toUInt32.toInt32) < (32 : Int32)))), .val (.int (bi ((u0.toUInt32.toUInt16.toUInt32.toInt32) = (32 : Int32)))), .unset, .unset] [(.int (bi (((u0.toUInt32.toUInt16.toUInt32.toInt32) = (60 : Int32)) ∨ ((u0.toUInt32.toUInt16.toUInt32.toInt32) = (62 : Int32)))))])) t
      refine XS.istore X0.here hx rfl (hb hby at_52) rfl (l' := #[.val (.int u0), .val (.int (u0.toUInt32.toUInt16.toUInt32.toInt32)), .val (.int (bi ((u0.toUInt32.toUInt16.toUInt32.toInt32) < (32 : Int32)))), .val (.int (bi ((u0.toUInt32.toUInt16.toUInt32.toInt32) = (32 : Int32)))), .val (.int (bi (((u0.toUInt32.toUInt16.toUInt32.toInt32) = (60 : Int32)) ∨ ((u0.toUInt32.toUInt16.toUInt32.toInt32) = (62 : Int32))))), .unset]) rfl ?_
      show Steps p.tables e below (s₁.setTop (mkF m 54 #[.val (.int u0), .val (.int (u0.toUInt32.toUInt16.toUInt32.toInt32)), .val (.int (bi ((u0.toUInt32.toUInt16.toUInt32.toInt32) < (32 : Int32)))), .val (.int (bi ((u0.toUInt32.toUInt16.toUInt32.toInt32) = (32 : Int32)))), .val (.int (bi (((u0.toUInt32.toUInt16.toUInt32.toInt32) = (60 : Int32)) ∨ ((u0.toUInt32.toUInt16.toUInt32.toInt32) = (62 : Int32))))), .unset] [])) t
      refine XS.iloadN X0.here hx rfl (hb hby at_54) rfl ?_
      exact k
    refine OFin.go S16 ?_
    have J17 : ∀ t, Steps p.tables e below (s₁.setTop (mkF m 72 #[.val (.int u0), .val (.int (u0.toUInt32.toUInt16.toUInt32.toInt32)), .val (.int (bi ((u0.toUInt32.toUInt16.toUInt32.toInt32) < (32 : Int32)))), .val (.int (bi ((u0.toUInt32.toUInt16.toUInt32.toInt32) = (32 : Int32)))), .val (.int (bi (((u0.toUInt32.toUInt16.toUInt32.toInt32) = (60 : Int32)) ∨ ((u0.toUInt32.toUInt16.toUInt32.toInt32) = (62 : Int32))))), .unset] [(.int (bi (¬ ((u0.toUInt32.toUInt16.toUInt32.toInt32) < (32 : Int32)) ∧ (¬ ((u0.toUInt32.toUInt16.toUInt32.toInt32) = (32 : Int32)) ∧ (¬ (((u0.toUInt32.toUInt16.toUInt32.toInt32) = (60 : Int32)) ∨ ((u0.toUInt32.toUInt16.toUInt32.toInt32) = (62 : Int32))))))))])) t → Steps p.tables e below (s₁.setTop (mkF m 55 #[.val (.int u0), .val (.int (u0.toUInt32.toUInt16.toUInt32.toInt32)), .val (.int (bi ((u0.toUInt32.toUInt16.toUInt32.toInt32) < (32 : Int32)))), .val (.int (bi ((u0.toUInt32.toUInt16.toUInt32.toInt32) = (32 : Int32)))), .val (.int (bi (((u0.toUInt32.toUInt16.toUInt32.toInt32) = (60 : Int32)) ∨ ((u0.toUInt32.toUInt16.toUInt32.toInt32) = (62 : Int32))))), .unset] [(.int (bi ((u0.toUInt32.toUInt16.toUInt32.toInt32) < (32 : Int32))))])) t := by
      intro t k
      show Steps p.tables e below (s₁.setTop (mkF m 55 #[.val (.int u0), .val (.int (u0.toUInt32.toUInt16.toUInt32.toInt32)), .val (.int (bi ((u0.toUInt32.toUInt16.toUInt32.toInt32) < (32 : Int32)))), .val (.int (bi ((u0.toUInt32.toUInt16.toUInt32.toInt32) = (32 : Int32)))), .val (.int (bi (((u0.toUInt32.toUInt16.toUInt32.toInt32) = (60 : Int32)) ∨ ((u0.toUInt32.toUInt16.toUInt32.toInt32) = (62 : Int32))))), .unset] [(.int (bi ((u0.toUInt32.toUInt16.toUInt32.toInt32) < (32 : Int32))))])) t
      by_cases h18 : ((u0.toUInt32.toUInt16.toUInt32.toInt32) < (32 : Int32))
      · refine XS.ifYes X0.here hx rfl (pc0 := 55) (pc' := 71) rfl (hb hby at_55) rfl (bi_ne_t h18) (by decide) (by decide) ?_
        show Steps p.tables e below (s₁.setTop (mkF m 71 #[.val (.int u0), .val (.int (u0.toUInt32.toUInt16.toUInt32.toInt32)), .val (.int (bi ((u0.toUInt32.toUInt16.toUInt32.toInt32) < (32 : Int32)))), .val (.int (bi ((u0.toUInt32.toUInt16.toUInt32.toInt32) = (32 : Int32)))), .val (.int (bi (((u0.toUInt32.toUInt16.toUInt32.toInt32) = (60 : Int32)) ∨ ((u0.toUInt32.toUInt16.toUInt32.toInt32) = (62 : Int32))))), .unset] [])) t
        refine XS.iconst X0.here hx rfl (hb hby at_71) ?_
        show Steps p.tables e below (s₁.setTop (mkF m 72 #[.val (.int u0), .val (.int (u0.toUInt32.toUInt16.toUInt32.toInt32)), .val (.int (bi ((u0.toUInt32.toUInt16.toUInt32.toInt32) < (32 : Int32)))), .val (.int (bi ((u0.toUInt32.toUInt16.toUInt32.toInt32) = (32 : Int32)))), .val (.int (bi (((u0.toUInt32.toUInt16.toUInt32.toInt32) = (60 : Int32)) ∨ ((u0.toUInt32.toUInt16.toUInt32.toInt32) = (62 : Int32))))), .unset] [(.int (0 : Int32))])) t
        exact (castTop (congrArg (fun z => (mkF m 72 #[.val (.int u0), .val (.int (u0.toUInt32.toUInt16.toUInt32.toInt32)), .val (.int (bi ((u0.toUInt32.toUInt16.toUInt32.toInt32) < (32 : Int32)))), .val (.int (bi ((u0.toUInt32.toUInt16.toUInt32.toInt32) = (32 : Int32)))), .val (.int (bi (((u0.toUInt32.toUInt16.toUInt32.toInt32) = (60 : Int32)) ∨ ((u0.toUInt32.toUInt16.toUInt32.toInt32) = (62 : Int32))))), .unset] [(.int z)])) (bi_f (fun q => q.1 h18)).symm) k)
      · refine XS.ifNo X0.here hx rfl (hb hby at_55) rfl (bi_ne_f h18) ?_
        show Steps p.tables e below (s₁.setTop (mkF m 58 #[.val (.int u0), .val (.int (u0.toUInt32.toUInt16.toUInt32.toInt32)), .val (.int (bi ((u0.toUInt32.toUInt16.toUInt32.toInt32) < (32 : Int32)))), .val (.int (bi ((u0.toUInt32.toUInt16.toUInt32.toInt32) = (32 : Int32)))), .val (.int (bi (((u0.toUInt32.toUInt16.toUInt32.toInt32) = (60 : Int32)) ∨ ((u0.toUInt32.toUInt16.toUInt32.toInt32) = (62 : Int32))))), .unset] [])) t
        refine XS.iloadN X0.here hx rfl (hb hby at_58) rfl ?_
        show Steps p.tables e below (s₁.setTop (mkF m 59 #[.val (.int u0), .val (.int (u0.toUInt32.toUInt16.toUInt32.toInt32)), .val (.int (bi ((u0.toUInt32.toUInt16.toUInt32.toInt32) < (32 : Int32)))), .val (.int (bi ((u0.toUInt32.toUInt16.toUInt32.toInt32) = (32 : Int32)))), .val (.int (bi (((u0.toUInt32.toUInt16.toUInt32.toInt32) = (60 : Int32)) ∨ ((u0.toUInt32.toUInt16.toUInt32.toInt32) = (62 : Int32))))), .unset] [(.int (bi ((u0.toUInt32.toUInt16.toUInt32.toInt32) = (32 : Int32))))])) t
        by_cases h19 : ((u0.toUInt32.toUInt16.toUInt32.toInt32) = (32 : Int32))
        · refine XS.ifYes X0.here hx rfl (pc0 := 59) (pc' := 71) rfl (hb hby at_59) rfl (bi_ne_t h19) (by decide) (by decide) ?_
          show Steps p.tables e below (s₁.setTop (mkF m 71 #[.val (.int u0), .val (.int (u0.toUInt32.toUInt16.toUInt32.toInt32)), .val (.int (bi ((u0.toUInt32.toUInt16.toUInt32.toInt32) < (32 : Int32)))), .val (.int (bi ((u0.toUInt32.toUInt16.toUInt32.toInt32) = (32 : Int32)))), .val (.int (bi (((u0.toUInt32.toUInt16.toUInt32.toInt32) = (60 : Int32)) ∨ ((u0.toUInt32.toUInt16.toUInt32.toInt32) = (62 : Int32))))), .unset] [])) t
          refine XS.iconst X0.here hx rfl (hb hby at_71) ?_
          show Steps p.tables e below (s₁.setTop (mkF m 72 #[.val (.int u0), .val (.int (u0.toUInt32.toUInt16.toUInt32.toInt32)), .val (.int (bi ((u0.toUInt32.toUInt16.toUInt32.toInt32) < (32 : Int32)))), .val (.int (bi ((u0.toUInt32.toUInt16.toUInt32.toInt32) = (32 : Int32)))), .val (.int (bi (((u0.toUInt32.toUInt16.toUInt32.toInt32) = (60 : Int32)) ∨ ((u0.toUInt32.toUInt16.toUInt32.toInt32) = (62 : Int32))))), .unset] [(.int (0 : Int32))])) t
          exact (castTop (congrArg (fun z => (mkF m 72 #[.val (.int u0), .val (.int (u0.toUInt32.toUInt16.toUInt32.toInt32)), .val (.int (bi ((u0.toUInt32.toUInt16.toUInt32.toInt32) < (32 : Int32)))), .val (.int (bi ((u0.toUInt32.toUInt16.toUInt32.toInt32) = (32 : Int32)))), .val (.int (bi (((u0.toUInt32.toUInt16.toUInt32.toInt32) = (60 : Int32)) ∨ ((u0.toUInt32.toUInt16.toUInt32.toInt32) = (62 : Int32))))), .unset] [(.int z)])) (bi_f (fun q => (fun q => q.1 h19) q.2)).symm) k)
        · refine XS.ifNo X0.here hx rfl (hb hby at_59) rfl (bi_ne_f h19) ?_
          show Steps p.tables e below (s₁.setTop (mkF m 62 #[.val (.int u0), .val (.int (u0.toUInt32.toUInt16.toUInt32.toInt32)), .val (.int (bi ((u0.toUInt32.toUInt16.toUInt32.toInt32) < (32 : Int32)))), .val (.int (bi ((u0.toUInt32.toUInt16.toUInt32.toInt32) = (32 : Int32)))), .val (.int (bi (((u0.toUInt32.toUInt16.toUInt32.toInt32) = (60 : Int32)) ∨ ((u0.toUInt32.toUInt16.toUInt32.toInt32) = (62 : Int32))))), .unset] [])) t
          refine XS.iload X0.here hx rfl (hb hby at_62) rfl ?_
          show Steps p.tables e below (s₁.setTop (mkF m 64 #[.val (.int u0), .val (.int (u0.toUInt32.toUInt16.toUInt32.toInt32)), .val (.int (bi ((u0.toUInt32.toUInt16.toUInt32.toInt32) < (32 : Int32)))), .val (.int (bi ((u0.toUInt32.toUInt16.toUInt32.toInt32) = (32 : Int32)))), .val (.int (bi (((u0.toUInt32.toUInt16.toUInt32.toInt32) = (60 : Int32)) ∨ ((u0.toUInt32.toUInt16.toUInt32.toInt32) = (62 : Int32))))), .unset] [(.int (bi (((u0.toUInt32.toUInt16.toUInt32.toInt32) = (60 : Int32)) ∨ ((u0.toUInt32.toUInt16.toUInt32.toInt32) = (62 : Int32)))))])) t
          by_cases h20 : (((u0.toUInt32.toUInt16.toUInt32.toInt32) = (60 : Int32)) ∨ ((u0.toUInt32.toUInt16.toUInt32.toInt32) = (62 : Int32)))
          · refine XS.ifYes X0.here hx rfl (pc0 := 64) (pc' := 71) rfl (hb hby at_64) rfl (bi_ne_t h20) (by decide) (by decide) ?_
            show Steps p.tables e below (s₁.setTop (mkF m 71 #[.val (.int u0), .val (.int (u0.toUInt32.toUInt16.toUInt32.toInt32)), .val (.int (bi ((u0.toUInt32.toUInt16.toUInt32.toInt32) < (32 : Int32)))), .val (.int (bi ((u0.toUInt32.toUInt16.toUInt32.toInt32) = (32 : Int32)))), .val (.int (bi (((u0.toUInt32.toUInt16.toUInt32.toInt32) = (60 : Int32)) ∨ ((u0.toUInt32.toUInt16.toUInt32.toInt32) = (62 : Int32))))), .unset] [])) t
            refine XS.iconst X0.here hx rfl (hb hby at_71) ?_
            show Steps p.tables e below (s₁.setTop (mkF m 72 #[.val (.int u0), .val (.int (u0.toUInt32.toUInt16.toUInt32.toInt32)), .val (.int (bi ((u0.toUInt32.toUInt16.toUInt32.toInt32) < (32 : Int32)))), .val (.int (bi ((u0.toUInt32.toUInt16.toUInt32.toInt32) = (32 : Int32)))), .val (.int (bi (((u0.toUInt32.toUInt16.toUInt32.toInt32) = (60 : Int32)) ∨ ((u0.toUInt32.toUInt16.toUInt32.toInt32) = (62 : Int32))))), .unset] [(.int (0 : Int32))])) t
            exact (castTop (congrArg (fun z => (mkF m 72 #[.val (.int u0), .val (.int (u0.toUInt32.toUInt16.toUInt32.toInt32)), .val (.int (bi ((u0.toUInt32.toUInt16.toUInt32.toInt32) < (32 : Int32)))), .val (.int (bi ((u0.toUInt32.toUInt16.toUInt32.toInt32) = (32 : Int32)))), .val (.int (bi (((u0.toUInt32.toUInt16.toUInt32.toInt32) = (60 : Int32)) ∨ ((u0.toUInt32.toUInt16.toUInt32.toInt32) = (62 : Int32))))), .unset] [(.int z)])) (bi_f (fun q => (fun q => (fun q => q h20) q.2) q.2)).symm) k)
          · refine XS.ifNo X0.here hx rfl (hb hby at_64) rfl (bi_ne_f h20) ?_
            show Steps p.tables e below (s₁.setTop (mkF m 67 #[.val (.int u0), .val (.int (u0.toUInt32.toUInt16.toUInt32.toInt32)), .val (.int (bi ((u0.toUInt32.toUInt16.toUInt32.toInt32) < (32 : Int32)))), .val (.int (bi ((u0.toUInt32.toUInt16.toUInt32.toInt32) = (32 : Int32)))), .val (.int (bi (((u0.toUInt32.toUInt16.toUInt32.toInt32) = (60 : Int32)) ∨ ((u0.toUInt32.toUInt16.toUInt32.toInt32) = (62 : Int32))))), .unset] [])) t
            refine XS.iconst X0.here hx rfl (hb hby at_67) ?_
            show Steps p.tables e below (s₁.setTop (mkF m 68 #[.val (.int u0), .val (.int (u0.toUInt32.toUInt16.toUInt32.toInt32)), .val (.int (bi ((u0.toUInt32.toUInt16.toUInt32.toInt32) < (32 : Int32)))), .val (.int (bi ((u0.toUInt32.toUInt16.toUInt32.toInt32) = (32 : Int32)))), .val (.int (bi (((u0.toUInt32.toUInt16.toUInt32.toInt32) = (60 : Int32)) ∨ ((u0.toUInt32.toUInt16.toUInt32.toInt32) = (62 : Int32))))), .unset] [(.int (1 : Int32))])) t
            refine XS.goto X0.here hx rfl (pc0 := 68) (pc' := 72) rfl (hb hby at_68) (by decide) (by decide) ?_
            show Steps p.tables e below (s₁.setTop (mkF m 72 #[.val (.int u0), .val (.int (u0.toUInt32.toUInt16.toUInt32.toInt32)), .val (.int (bi ((u0.toUInt32.toUInt16.toUInt32.toInt32) < (32 : Int32)))), .val (.int (bi ((u0.toUInt32.toUInt16.toUInt32.toInt32) = (32 : Int32)))), .val (.int (bi (((u0.toUInt32.toUInt16.toUInt32.toInt32) = (60 : Int32)) ∨ ((u0.toUInt32.toUInt16.toUInt32.toInt32) = (62 : Int32))))), .unset] [(.int (1 : Int32))])) t
            exact (castTop (congrArg (fun z => (mkF m 72 #[.val (.int u0), .val (.int (u0.toUInt32.toUInt16.toUInt32.toInt32)), .val (.int (bi ((u0.toUInt32.toUInt16.toUInt32.toInt32) < (32 : Int32)))), .val (.int (bi ((u0.toUInt32.toUInt16.toUInt32.toInt32) = (32 : Int32)))), .val (.int (bi (((u0.toUInt32.toUInt16.toUInt32.toInt32) = (60 : Int32)) ∨ ((u0.toUInt32.toUInt16.toUInt32.toInt32) = (62 : Int32))))), .unset] [(.int z)])) (bi_t ⟨h18, ⟨h19, h20⟩⟩).symm) k)
    refine OFin.go J17 ?_
    have S21 : ∀ t, Steps p.tables e below (s₁.setTop (mkF m 75 #[.val (.int u0), .val (.int (u0.toUInt32.toUInt16.toUInt32.toInt32)), .val (.int (bi ((u0.toUInt32.toUInt16.toUInt32.toInt32) < (32 : Int32)))), .val (.int (bi ((u0.toUInt32.toUInt16.toUInt32.toInt32) = (32 : Int32)))), .val (.int (bi (((u0.toUInt32.toUInt16.toUInt32.toInt32) = (60 : Int32)) ∨ ((u0.toUInt32.toUInt16.toUInt32.toInt32) = (62 : Int32))))), .val (.int (bi (¬ ((u0.toUInt32.toUInt16.toUInt32.toInt32) < (32 : Int32)) ∧ (¬ ((u0.toUInt32.toUInt16.toUInt32.toInt32) = (32 : Int32)) ∧ (¬ (((u0.toUInt32.toUInt16.toUInt32.toInt32) = (60 : Int32)) ∨ ((u0.toUInt32.toUInt16.toUInt32.toInt32) = (62 : Int32))))))))] [(.int (u0.toUInt32.toUInt16.toUInt32.toInt32))])) t → Steps p.tables e below (s₁.setTop (mkF m 72 #[.val (.int u0), .val (.int (u0.toUInt32.toUInt16.toUInt32.toInt32)), .val (.int (bi ((u0.toUInt32.toUInt16.toUInt32.toInt32) < (32 : Int32)))), .val (.int (bi ((u0.toUInt32.toUInt16.toUInt32.toInt32) = (32 : Int32)))), .val (.int (bi (((u0.toUInt32.toUInt16.toUInt32.toInt32) = (60 : Int32)) ∨ ((u0.toUInt32.toUInt16.toUInt32.toInt32) = (62 : Int32))))), .unset] [(.int (bi (¬ ((u0.toUInt32.toUInt16.toUInt32.toInt32) < (32 : Int32)) ∧ (¬ ((u0.toUInt32.toUInt16.toUInt32.toInt32) = (32 : Int32)) ∧ (¬ (((u0.toUInt32.toUInt16.toUInt32.toInt32) = (60 : Int32)) ∨ ((u0.toUInt32.toUInt16.toUInt32.toInt32) = (62 : Int32))))))))])) t := by
      intro t k
      show Steps p.tables e below (s₁.setTop (mkF m 72 #[.val (.int u0), .val (.int (u0.toUInt32.toUInt16.toUInt32.toInt32)), .val (.int (bi ((u0.toUInt32.toUInt16.toUInt32.toInt32) < (32 : Int32)))), .val (.int (bi ((u0.toUInt32.toUInt16.toUInt32.toInt32) = (32 : Int32)))), .val (.int (bi (((u0.toUInt32.toUInt16.toUInt32.toInt32) = (60 : Int32)) ∨ ((u0.toUInt32.toUInt16.toUInt32.toInt32) = (62 : Int32))))), .unset] [(.int (bi (¬ ((u0.toUInt32.toUInt16.toUInt32.toInt32) < (32 : Int32)) ∧ (¬ ((u0.toUInt32.toUInt16.toUInt32.toInt32) = (32 : Int32)) ∧ (¬ (((u0.toUInt32.toUInt16.toUInt32.toInt32) = (60 : Int32)) ∨ ((u0.toUInt32.toUInt16.toUInt32.toInt32) = (62 : Int32))))))))])) t
      refine XS.istore X0.here hx rfl (hb hby at_72) rfl (l' := #[.val (.int u0), .val (.int (u0.toUInt32.toUInt16.toUInt32.toInt32)), .val (.int (bi ((u0.toUInt32.toUInt16.toUInt32.toInt32) < (32 : Int32)))), .val (.int (bi ((u0.toUInt32.toUInt16.toUInt32.toInt32) = (32 : Int32)))), .val (.int (bi (((u0.toUInt32.toUInt16.toUInt32.toInt32) = (60 : Int32)) ∨ ((u0.toUInt32.toUInt16.toUInt32.toInt32) = (62 : Int32))))), .val (.int (bi (¬ ((u0.toUInt32.toUInt16.toUInt32.toInt32) < (32 : Int32)) ∧ (¬ ((u0.toUInt32.toUInt16.toUInt32.toInt32) = (32 : Int32)) ∧ (¬ (((u0.toUInt32.toUInt16.toUInt32.toInt32) = (60 : Int32)) ∨ ((u0.toUInt32.toUInt16.toUInt32.toInt32) = (62 : Int32))))))))]) rfl ?_
      show Steps p.tables e below (s₁.setTop (mkF m 74 #[.val (.int u0), .val (.int (u0.toUInt32.toUInt16.toUInt32.toInt32)), .val (.int (bi ((u0.toUInt32.toUInt16.toUInt32.toInt32) < (32 : Int32)))), .val (.int (bi ((u0.toUInt32.toUInt16.toUInt32.toInt32) = (32 : Int32)))), .val (.int (bi (((u0.toUInt32.toUInt16.toUInt32.toInt32) = (60 : Int32)) ∨ ((u0.toUInt32.toUInt16.toUInt32.toInt32) = (62 : Int32))))), .val (.int (bi (¬ ((u0.toUInt32.toUInt16.toUInt32.toInt32) < (32 : Int32)) ∧ (¬ ((u0.toUInt32.toUInt16.toUInt32.toInt32) = (32 : Int32)) ∧ (¬ (((u0.toUInt32.toUInt16.toUInt32.toInt32) = (60 : Int32)) ∨ ((u0.toUInt32.toUInt16.toUInt32.toInt32) = (62 : Int32))))))))] [])) t
      refine XS.iloadN X0.here hx rfl (hb hby at_74) rfl ?_
      exact k
    refine OFin.go S21 ?_
    obtain ⟨_, T22, Lc22, X22, hQ22, st22⟩ := callQ X0 hx hZ (y := (⟨site_75.cls, "isIriChar", "(C)Z"⟩ : MethodName)) hown (hw _ (List.mem_of_getElem? (i := 0) rfl)) (hw _ (List.mem_of_getElem? (i := 1) rfl)) (hw _ (List.mem_of_getElem? (i := 2) rfl)) (hw _ (List.mem_of_getElem? (i := 3) rfl)) (by decide) (argsL := [(.int (u0.toUInt32.toUInt16.toUInt32.toInt32))]) (rest := []) (rm1 l Z a0 hw [] (u0.toUInt32.toUInt16.toUInt32.toInt32) h0 n0 Z0) (W := 0) (by decide) (by decide) e0 (g := (mkF m 75 #[.val (.int u0), .val (.int (u0.toUInt32.toUInt16.toUInt32.toInt32)), .val (.int (bi ((u0.toUInt32.toUInt16.toUInt32.toInt32) < (32 : Int32)))), .val (.int (bi ((u0.toUInt32.toUInt16.toUInt32.toInt32) = (32 : Int32)))), .val (.int (bi (((u0.toUInt32.toUInt16.toUInt32.toInt32) = (60 : Int32)) ∨ ((u0.toUInt32.toUInt16.toUInt32.toInt32) = (62 : Int32))))), .val (.int (bi (¬ ((u0.toUInt32.toUInt16.toUInt32.toInt32) < (32 : Int32)) ∧ (¬ ((u0.toUInt32.toUInt16.toUInt32.toInt32) = (32 : Int32)) ∧ (¬ (((u0.toUInt32.toUInt16.toUInt32.toInt32) = (60 : Int32)) ∨ ((u0.toUInt32.toUInt16.toUInt32.toInt32) = (62 : Int32))))))))] [(.int (u0.toUInt32.toUInt16.toUInt32.toInt32))])) rfl (by rw [hml]; rfl) (lenOf pd_0 rfl) rfl (by show 2 * 0 + _ ≤ _; exact Nat.le_of_eq rfl) (hb hby at_75) (Nat.le_of_ble_eq_true rfl) (Nat.le_of_ble_eq_true rfl)
    obtain ⟨rfl, N22q, e22⟩ := hQ22
    have N22 := Fr.app N0 N22q
    refine OFin.go st22 ?_
    show OFin p e below _ (T22.setTop (mkF m 78 #[.val (.int u0), .val (.int (u0.toUInt32.toUInt16.toUInt32.toInt32)), .val (.int (bi ((u0.toUInt32.toUInt16.toUInt32.toInt32) < (32 : Int32)))), .val (.int (bi ((u0.toUInt32.toUInt16.toUInt32.toInt32) = (32 : Int32)))), .val (.int (bi (((u0.toUInt32.toUInt16.toUInt32.toInt32) = (60 : Int32)) ∨ ((u0.toUInt32.toUInt16.toUInt32.toInt32) = (62 : Int32))))), .val (.int (bi (¬ ((u0.toUInt32.toUInt16.toUInt32.toInt32) < (32 : Int32)) ∧ (¬ ((u0.toUInt32.toUInt16.toUInt32.toInt32) = (32 : Int32)) ∧ (¬ (((u0.toUInt32.toUInt16.toUInt32.toInt32) = (60 : Int32)) ∨ ((u0.toUInt32.toUInt16.toUInt32.toInt32) = (62 : Int32))))))))] [(.int (fIri (u0.toUInt32.toUInt16.toUInt32.toInt32)))]))
    have S23 : ∀ t, Steps p.tables e below (T22.setTop (mkF m 80 #[.val (.int u0), .val (.int (u0.toUInt32.toUInt16.toUInt32.toInt32)), .val (.int (bi ((u0.toUInt32.toUInt16.toUInt32.toInt32) < (32 : Int32)))), .val (.int (bi ((u0.toUInt32.toUInt16.toUInt32.toInt32) = (32 : Int32)))), .val (.int (bi (((u0.toUInt32.toUInt16.toUInt32.toInt32) = (60 : Int32)) ∨ ((u0.toUInt32.toUInt16.toUInt32.toInt32) = (62 : Int32))))), .val (.int (bi (¬ ((u0.toUInt32.toUInt16.toUInt32.toInt32) < (32 : Int32)) ∧ (¬ ((u0.toUInt32.toUInt16.toUInt32.toInt32) = (32 : Int32)) ∧ (¬ (((u0.toUInt32.toUInt16.toUInt32.toInt32) = (60 : Int32)) ∨ ((u0.toUInt32.toUInt16.toUInt32.toInt32) = (62 : Int32))))))))] [(.int (bi (¬ ((u0.toUInt32.toUInt16.toUInt32.toInt32) < (32 : Int32)) ∧ (¬ ((u0.toUInt32.toUInt16.toUInt32.toInt32) = (32 : Int32)) ∧ (¬ (((u0.toUInt32.toUInt16.toUInt32.toInt32) = (60 : Int32)) ∨ ((u0.toUInt32.toUInt16.toUInt32.toInt32) = (62 : Int32)))))))), (.int (fIri (u0.toUInt32.toUInt16.toUInt32.toInt32)))])) t → Steps p.tables e below (T22.setTop (mkF m 78 #[.val (.int u0), .val (.int (u0.toUInt32.toUInt16.toUInt32.toInt32)), .val (.int (bi ((u0.toUInt32.toUInt16.toUInt32.toInt32) < (32 : Int32)))), .val (.int (bi ((u0.toUInt32.toUInt16.toUInt32.toInt32) = (32 : Int32)))), .val (.int (bi (((u0.toUInt32.toUInt16.toUInt32.toInt32) = (60 : Int32)) ∨ ((u0.toUInt32.toUInt16.toUInt32.toInt32) = (62 : Int32))))), .val (.int (bi (¬ ((u0.toUInt32.toUInt16.toUInt32.toInt32) < (32 : Int32)) ∧ (¬ ((u0.toUInt32.toUInt16.toUInt32.toInt32) = (32 : Int32)) ∧ (¬ (((u0.toUInt32.toUInt16.toUInt32.toInt32) = (60 : Int32)) ∨ ((u0.toUInt32.toUInt16.toUInt32.toInt32) = (62 : Int32))))))))] [(.int (fIri (u0.toUInt32.toUInt16.toUInt32.toInt32)))])) t := by
      intro t k
      show Steps p.tables e below (T22.setTop (mkF m 78 #[.val (.int u0), .val (.int (u0.toUInt32.toUInt16.toUInt32.toInt32)), .val (.int (bi ((u0.toUInt32.toUInt16.toUInt32.toInt32) < (32 : Int32)))), .val (.int (bi ((u0.toUInt32.toUInt16.toUInt32.toInt32) = (32 : Int32)))), .val (.int (bi (((u0.toUInt32.toUInt16.toUInt32.toInt32) = (60 : Int32)) ∨ ((u0.toUInt32.toUInt16.toUInt32.toInt32) = (62 : Int32))))), .val (.int (bi (¬ ((u0.toUInt32.toUInt16.toUInt32.toInt32) < (32 : Int32)) ∧ (¬ ((u0.toUInt32.toUInt16.toUInt32.toInt32) = (32 : Int32)) ∧ (¬ (((u0.toUInt32.toUInt16.toUInt32.toInt32) = (60 : Int32)) ∨ ((u0.toUInt32.toUInt16.toUInt32.toInt32) = (62 : Int32))))))))] [(.int (fIri (u0.toUInt32.toUInt16.toUInt32.toInt32)))])) t
      refine XS.iload X22.here hx rfl (hb hby at_78) rfl ?_
      exact k
    refine OFin.go S23 ?_
    have S24 : ∀ t, Steps p.tables e below (T22.setTop (mkF m 83 #[.val (.int u0), .val (.int (u0.toUInt32.toUInt16.toUInt32.toInt32)), .val (.int (bi ((u0.toUInt32.toUInt16.toUInt32.toInt32) < (32 : Int32)))), .val (.int (bi ((u0.toUInt32.toUInt16.toUInt32.toInt32) = (32 : Int32)))), .val (.int (bi (((u0.toUInt32.toUInt16.toUInt32.toInt32) = (60 : Int32)) ∨ ((u0.toUInt32.toUInt16.toUInt32.toInt32) = (62 : Int32))))), .val (.int (bi (¬ ((u0.toUInt32.toUInt16.toUInt32.toInt32) < (32 : Int32)) ∧ (¬ ((u0.toUInt32.toUInt16.toUInt32.toInt32) = (32 : Int32)) ∧ (¬ (((u0.toUInt32.toUInt16.toUInt32.toInt32) = (60 : Int32)) ∨ ((u0.toUInt32.toUInt16.toUInt32.toInt32) = (62 : Int32))))))))] [])) t → Steps p.tables e below (T22.setTop (mkF m 80 #[.val (.int u0), .val (.int (u0.toUInt32.toUInt16.toUInt32.toInt32)), .val (.int (bi ((u0.toUInt32.toUInt16.toUInt32.toInt32) < (32 : Int32)))), .val (.int (bi ((u0.toUInt32.toUInt16.toUInt32.toInt32) = (32 : Int32)))), .val (.int (bi (((u0.toUInt32.toUInt16.toUInt32.toInt32) = (60 : Int32)) ∨ ((u0.toUInt32.toUInt16.toUInt32.toInt32) = (62 : Int32))))), .val (.int (bi (¬ ((u0.toUInt32.toUInt16.toUInt32.toInt32) < (32 : Int32)) ∧ (¬ ((u0.toUInt32.toUInt16.toUInt32.toInt32) = (32 : Int32)) ∧ (¬ (((u0.toUInt32.toUInt16.toUInt32.toInt32) = (60 : Int32)) ∨ ((u0.toUInt32.toUInt16.toUInt32.toInt32) = (62 : Int32))))))))] [(.int (bi (¬ ((u0.toUInt32.toUInt16.toUInt32.toInt32) < (32 : Int32)) ∧ (¬ ((u0.toUInt32.toUInt16.toUInt32.toInt32) = (32 : Int32)) ∧ (¬ (((u0.toUInt32.toUInt16.toUInt32.toInt32) = (60 : Int32)) ∨ ((u0.toUInt32.toUInt16.toUInt32.toInt32) = (62 : Int32)))))))), (.int (fIri (u0.toUInt32.toUInt16.toUInt32.toInt32)))])) t := by
      intro t k
      show Steps p.tables e below (T22.setTop (mkF m 80 #[.val (.int u0), .val (.int (u0.toUInt32.toUInt16.toUInt32.toInt32)), .val (.int (bi ((u0.toUInt32.toUInt16.toUInt32.toInt32) < (32 : Int32)))), .val (.int (bi ((u0.toUInt32.toUInt16.toUInt32.toInt32) = (32 : Int32)))), .val (.int (bi (((u0.toUInt32.toUInt16.toUInt32.toInt32) = (60 : Int32)) ∨ ((u0.toUInt32.toUInt16.toUInt32.toInt32) = (62 : Int32))))), .val (.int (bi (¬ ((u0.toUInt32.toUInt16.toUInt32.toInt32) < (32 : Int32)) ∧ (¬ ((u0.toUInt32.toUInt16.toUInt32.toInt32) = (32 : Int32)) ∧ (¬ (((u0.toUInt32.toUInt16.toUInt32.toInt32) = (60 : Int32)) ∨ ((u0.toUInt32.toUInt16.toUInt32.toInt32) = (62 : Int32))))))))] [(.int (bi (¬ ((u0.toUInt32.toUInt16.toUInt32.toInt32) < (32 : Int32)) ∧ (¬ ((u0.toUInt32.toUInt16.toUInt32.toInt32) = (32 : Int32)) ∧ (¬ (((u0.toUInt32.toUInt16.toUInt32.toInt32) = (60 : Int32)) ∨ ((u0.toUInt32.toUInt16.toUInt32.toInt32) = (62 : Int32)))))))), (.int (fIri (u0.toUInt32.toUInt16.toUInt32.toInt32)))])) t
      refine XS.icmpNo X22.here hx rfl (hb hby at_80) rfl (teq (own_law u0  h2)).2 ?_
      exact k
    refine OFin.go S24 ?_
    have S25 : ∀ t, Steps p.tables e below (T22.setTop (mkF m 88 #[.val (.int u0), .val (.int (u0.toUInt32.toUInt16.toUInt32.toInt32)), .val (.int (bi ((u0.toUInt32.toUInt16.toUInt32.toInt32) < (32 : Int32)))), .val (.int (bi ((u0.toUInt32.toUInt16.toUInt32.toInt32) = (32 : Int32)))), .val (.int (bi (((u0.toUInt32.toUInt16.toUInt32.toInt32) = (60 : Int32)) ∨ ((u0.toUInt32.toUInt16.toUInt32.toInt32) = (62 : Int32))))), .val (.int (bi (¬ ((u0.toUInt32.toUInt16.toUInt32.toInt32) < (32 : Int32)) ∧ (¬ ((u0.toUInt32.toUInt16.toUInt32.toInt32) = (32 : Int32)) ∧ (¬ (((u0.toUInt32.toUInt16.toUInt32.toInt32) = (60 : Int32)) ∨ ((u0.toUInt32.toUInt16.toUInt32.toInt32) = (62 : Int32))))))))] [(.int (1 : Int32))])) t → Steps p.tables e below (T22.setTop (mkF m 83 #[.val (.int u0), .val (.int (u0.toUInt32.toUInt16.toUInt32.toInt32)), .val (.int (bi ((u0.toUInt32.toUInt16.toUInt32.toInt32) < (32 : Int32)))), .val (.int (bi ((u0.toUInt32.toUInt16.toUInt32.toInt32) = (32 : Int32)))), .val (.int (bi (((u0.toUInt32.toUInt16.toUInt32.toInt32) = (60 : Int32)) ∨ ((u0.toUInt32.toUInt16.toUInt32.toInt32) = (62 : Int32))))), .val (.int (bi (¬ ((u0.toUInt32.toUInt16.toUInt32.toInt32) < (32 : Int32)) ∧ (¬ ((u0.toUInt32.toUInt16.toUInt32.toInt32) = (32 : Int32)) ∧ (¬ (((u0.toUInt32.toUInt16.toUInt32.toInt32) = (60 : Int32)) ∨ ((u0.toUInt32.toUInt16.toUInt32.toInt32) = (62 : Int32))))))))] [])) t := by
      intro t k
      show Steps p.tables e below (T22.setTop (mkF m 83 #[.val (.int u0), .val (.int (u0.toUInt32.toUInt16.toUInt32.toInt32)), .val (.int (bi ((u0.toUInt32.toUInt16.toUInt32.toInt32) < (32 : Int32)))), .val (.int (bi ((u0.toUInt32.toUInt16.toUInt32.toInt32) = (32 : Int32)))), .val (.int (bi (((u0.toUInt32.toUInt16.toUInt32.toInt32) = (60 : Int32)) ∨ ((u0.toUInt32.toUInt16.toUInt32.toInt32) = (62 : Int32))))), .val (.int (bi (¬ ((u0.toUInt32.toUInt16.toUInt32.toInt32) < (32 : Int32)) ∧ (¬ ((u0.toUInt32.toUInt16.toUInt32.toInt32) = (32 : Int32)) ∧ (¬ (((u0.toUInt32.toUInt16.toUInt32.toInt32) = (60 : Int32)) ∨ ((u0.toUInt32.toUInt16.toUInt32.toInt32) = (62 : Int32))))))))] [])) t
      refine XS.iconst X22.here hx rfl (hb hby at_83) ?_
      show Steps p.tables e below (T22.setTop (mkF m 84 #[.val (.int u0), .val (.int (u0.toUInt32.toUInt16.toUInt32.toInt32)), .val (.int (bi ((u0.toUInt32.toUInt16.toUInt32.toInt32) < (32 : Int32)))), .val (.int (bi ((u0.toUInt32.toUInt16.toUInt32.toInt32) = (32 : Int32)))), .val (.int (bi (((u0.toUInt32.toUInt16.toUInt32.toInt32) = (60 : Int32)) ∨ ((u0.toUInt32.toUInt16.toUInt32.toInt32) = (62 : Int32))))), .val (.int (bi (¬ ((u0.toUInt32.toUInt16.toUInt32.toInt32) < (32 : Int32)) ∧ (¬ ((u0.toUInt32.toUInt16.toUInt32.toInt32) = (32 : Int32)) ∧ (¬ (((u0.toUInt32.toUInt16.toUInt32.toInt32) = (60 : Int32)) ∨ ((u0.toUInt32.toUInt16.toUInt32.toInt32) = (62 : Int32))))))))] [(.int (1 : Int32))])) t
      refine XS.goto X22.here hx rfl (pc0 := 84) (pc' := 88) rfl (hb hby at_84) (by decide) (by decide) ?_
      exact k
    refine OFin.go S25 ?_
    exact finZ X22 hx Bd.notSynchronized (t := .boolean) Bd.returns (by simp) (hb hby at_88) rfl (by decide) (by decide) (⟨congrArg (fun z => some (Value.int z)) (rfl : (1 : Int32) = (1 : Int32)), N22⟩)
set_option maxRecDepth 65536 in
set_option maxHeartbeats 40000000 in
theorem comes_1 {Post : Tables → Env → Array Value → State → Outcome → State → Prop} (hpost : ∀ tb e args s v u, (limb_1_1.after args s (.returned v) u = true ∧ limb_1_2.after args s (.returned v) u = true ∧ True) → FrameEnd s (.returned v) u (Jvm.fieldLocs frame_1_writes args s ++ Jvm.arrayLocs frame_1_arrays args s ++ Jvm.staticLocs frame_1_statics s) 0 0 → Post tb e args s (.returned v) u) :
    ArmFor flags0 classFile x code maxLocals ret World_1 tables_1 room_1 Calls_1 rest_1 Pre_1 Post := by
  intro l hfl _ _ p e ha hc hk s m args below hf hA hF happ hP
  obtain ⟨hcalls, hrest, hpre⟩ := hP
  obtain ⟨-, -, -, hnamed, -, -, -, hat⟩ := (Spec.applies_iff hf).mp happ
  obtain ⟨hg, hn⟩ := and_e (Cond.before_iff.mp (show (Jvm.Cond.and given_1 narrow_1).before args s = true from hpre))
  obtain ⟨gg2, gg3⟩ := and_e hg
  obtain ⟨w0, rfl⟩ : ∃ w0 : Value, args = #[w0] := by
    have hs : args.size = 1 := by simpa [Cond.value, given_1] using gg2
    obtain ⟨L⟩ := args
    match L, hs with
    | [w0], _ => exact ⟨w0, rfl⟩
  have hw := fun d (hd : d ∈ tables_1) => atoms_spec (ws := Jvm.Cond.code x code maxLocals ret :: tables_1) hat d (List.mem_cons_of_mem _ hd)
  have hfit : Fit s := fun {y c} hc i hi => by
    obtain ⟨ha, rfl⟩ := Array.getElem?_eq_some_iff.mp hc
    have q := List.all_eq_true.mp ((Array.all_eq_true_iff_forall_mem.mp hF) _ (Array.getElem_mem ha)) i (List.mem_range.mpr hi)
    simpa [Array.getElem?_eq_getElem hi] using q
  obtain ⟨i0, ei0⟩ := is_v gg3
  obtain rfl : w0 = (.int i0) := Option.some.inj ei0
  obtain ⟨n, o, h1, h2, h3, _, L, rfl, ⟨rfl, N⟩, hq⟩ := rm0 l s _ hw tables_1 i0 s.heap s.heap.size (Nat.le_refl _)  p e ha hc hk s m _ below hf ((Spec.applies_iff_loose hf).mp happ).1 ⟨rfl, State.Warmed39.refl s, rfl⟩ trivial
  refine ⟨n, _, h1, h2, h3, hpost _ _ _ _ _ _ ⟨Cond.after_iff.mpr rfl, Cond.after_iff.mpr (eq_i res_at (Term.int_eval (1)) rfl), trivial⟩ ⟨hq.1, hq.2.1, (hq.2.2.sift fun y hy => Or.inr (N y hy)).mono (by decide) (by decide)⟩⟩
theorem main_1_1 : Claimed_1_1 := comes_1 fun _ _ _ _ _ _ h hF => ⟨h.1, hF⟩
theorem main_1_2 : Claimed_1_2 := comes_1 fun _ _ _ _ _ _ h hF => ⟨h.2.1, hF⟩
end Jvm.Pilot.@@N@@
namespace Jvm.Pilot.@@N@@
open Jvm Jvm.ClassFile Sem Op Lib Jvm.Free Jvm.Stand Jvm.Pilot.@@N@@.Jvm.D
/-! MADE BY PROGRAM (witnessworld.py) out of the Statement's table words and the real class files: 9 classes; the members and pool entries that the words name. The judged class is class 1, her method 1. -/
namespace start1
open Jvm.ClassFile
def u (s : String) : CpInfo := .utf8 (stringToUtf16 s)
/-- a pool by its gaps: so many unusable entries, then the entry; so many at the end -/
def gap : Nat → List CpInfo → List CpInfo
  | 0, r => r
  | n + 1, r => .unusable :: gap n r
def poolList (es : List (Nat × CpInfo)) (last : Nat) : List CpInfo := es.foldr (fun e r => gap e.1 (e.2 :: r)) (gap last [])
def pool (es : List (Nat × CpInfo)) (last : Nat) : Array CpInfo := ⟨poolList es last⟩
def fileOf (pool : Array CpInfo) (this : Nat) (attrs : Array Attribute := #[]) (ms : Array MethodInfo := #[]) (fl : Nat := 33) (sup : Nat := 0) (ifs : Array Nat := #[]) (fds : Array FieldInfo := #[]) : ClassFile where
  minorVersion := 0
  majorVersion := 65
  constantPool := pool
  accessFlags := fl
  thisClass := this
  superClass := sup
  interfaces := ifs
  fields := fds
  methods := ms
  attributes := attrs
def plain (name : String) (sup : Option ClassId) : Class where
  name := name
  kind := .ordinary
  loader := none
  accessFlags := 33
  super := sup
  interfaces := #[]
  cf := none
  fields := #[]
  methods := #[]
  instanceTypes := #[]
  staticTypes := #[]
  resolved := #[]
  callSites := []
  init := .initialized
  statics := none
  mirror := none

def pool0 : Array CpInfo := pool [(5, u "<init>"), (0, u "()V"), (1, .class_ 10), (1, u "java/lang/Object")] 113

def k0m0 : Method := { name := "<init>", desc := "()V", sig := { parameters := [], returnType := none }, accessFlags := 1, code := none }
/-- java/lang/Object -/
def k0 : Class := { plain "java/lang/Object" none with
  accessFlags := 33
  interfaces := #[]
  cf := some (fileOf pool0 8 #[] #[{ accessFlags := 1, nameIndex := 5, descriptorIndex := 6, attributes := #[] }] 33 0 #[] #[])
  fields := #[]
  methods := #[k0m0]
  instanceTypes := #[]
  staticTypes := #[]
  resolved := Array.replicate 124 none
  statics := none }

def pool1 : Array CpInfo := pool [(2, .class_ 4), (1, u "java/lang/Object"), (0, u "<init>"), (0, u "()V"), (0, .methodref 8 9), (0, .class_ 10), (0, .nameAndType 11 12), (0, u site_75.cls), (0, u "isIriChar"), (0, u "(C)Z"), (0, .class_ 14), (0, u x.cls), (2, u "law"), (0, u "(I)Z")] 3

def k1m0 : Method := { name := "<init>", desc := "()V", sig := { parameters := [], returnType := none }, accessFlags := 2, code := none }
def k1c1 : Code := { maxStack := 2, maxLocals := 6, code := code, exceptionTable := #[], attributes := #[] }
def k1m1 : Method := { name := "law", desc := "(I)Z", sig := { parameters := [.int], returnType := some .boolean }, accessFlags := 9, code := some k1c1 }
def k1 : Class := { plain x.cls (some 0) with
  accessFlags := 49
  interfaces := #[]
  cf := some (fileOf pool1 13 #[] #[{ accessFlags := 2, nameIndex := 5, descriptorIndex := 6, attributes := #[] }, { accessFlags := 9, nameIndex := 17, descriptorIndex := 18, attributes := #[] }] 49 2 #[] #[])
  fields := #[]
  methods := #[k1m0, k1m1]
  instanceTypes := #[]
  staticTypes := #[]
  resolved := Array.replicate 22 none
  statics := none }

def pool2 : Array CpInfo := pool [(2, .class_ 4), (1, u "java/lang/Object"), (0, u "<init>"), (0, u "()V"), (6, .class_ 14), (0, u site_75.cls), (131, u "(C)Z"), (17, u "PREFIX_FORM"), (0, u "Ljava/lang/String;"), (3, u "OTHERS"), (0, u "ESCAPABLE"), (0, u "MENTION_KEYWORD"), (8, u "isIriChar")] 23

def k2m0 : Method := { name := "<init>", desc := "()V", sig := { parameters := [], returnType := none }, accessFlags := 2, code := none }
def k2c1 : Code := { maxStack := 2, maxLocals := 1, code := prog_50_method_11_code, exceptionTable := #[], attributes := #[] }
def k2m1 : Method := { name := "isIriChar", desc := "(C)Z", sig := { parameters := [.char], returnType := some .boolean }, accessFlags := 8, code := some k2c1 }
def k2 : Class := { plain site_75.cls (some 0) with
  accessFlags := 32
  interfaces := #[]
  cf := some (fileOf pool2 13 #[] #[{ accessFlags := 2, nameIndex := 5, descriptorIndex := 6, attributes := #[] }, { accessFlags := 8, nameIndex := 180, descriptorIndex := 146, attributes := #[] }] 32 2 #[] #[{ accessFlags := 24, nameIndex := 164, descriptorIndex := 165, attributes := #[] }, { accessFlags := 26, nameIndex := 169, descriptorIndex := 165, attributes := #[] }, { accessFlags := 26, nameIndex := 170, descriptorIndex := 165, attributes := #[] }, { accessFlags := 26, nameIndex := 171, descriptorIndex := 165, attributes := #[] }])
  fields := #[{ name := "PREFIX_FORM", type := (.object "java/lang/String"), accessFlags := 24, slot := 0, constantValue := 0 }, { name := "OTHERS", type := (.object "java/lang/String"), accessFlags := 26, slot := 1, constantValue := 0 }, { name := "ESCAPABLE", type := (.object "java/lang/String"), accessFlags := 26, slot := 2, constantValue := 0 }, { name := "MENTION_KEYWORD", type := (.object "java/lang/String"), accessFlags := 26, slot := 3, constantValue := 0 }]
  methods := #[k2m0, k2m1]
  instanceTypes := #[]
  staticTypes := #[(.object "java/lang/String"), (.object "java/lang/String"), (.object "java/lang/String"), (.object "java/lang/String")]
  resolved := Array.replicate 204 none
  statics := none }

def pool3 : Array CpInfo := pool [(1, u "java/lang/Cloneable"), (0, .class_ 1), (0, u "java/lang/Object"), (0, .class_ 3)] 3

/-- java/lang/Cloneable -/
def k3 : Class := { plain "java/lang/Cloneable" (some 0) with
  accessFlags := 1537
  interfaces := #[]
  cf := some (fileOf pool3 2 #[] #[] 1537 4 #[] #[])
  fields := #[]
  methods := #[]
  instanceTypes := #[]
  staticTypes := #[]
  resolved := Array.replicate 8 none
  statics := none }

def pool4 : Array CpInfo := pool [(1, u "java/io/Serializable"), (0, .class_ 1), (0, u "java/lang/Object"), (0, .class_ 3)] 3

/-- java/io/Serializable -/
def k4 : Class := { plain "java/io/Serializable" (some 0) with
  accessFlags := 1537
  interfaces := #[]
  cf := some (fileOf pool4 2 #[] #[] 1537 4 #[] #[])
  fields := #[]
  methods := #[]
  instanceTypes := #[]
  staticTypes := #[]
  resolved := Array.replicate 8 none
  statics := none }

/-- the primitive byte -/
def k5 : Class := { plain "byte" none with kind := .primitive 'B', accessFlags := 0x411 }
/-- [B -/
def k6 : Class := { plain "[B" (some 0) with kind := .array 5 .byte, interfaces := #[3, 4], accessFlags := 1041 }

/-- the primitive int -/
def k7 : Class := { plain "int" none with kind := .primitive 'I', accessFlags := 0x411 }
/-- [I -/
def k8 : Class := { plain "[I" (some 0) with kind := .array 7 .int, interfaces := #[3, 4], accessFlags := 1041 }

def heap : Heap := #[]
def classes : Array Class := #[k0, k1, k2, k3, k4, k5, k6, k7, k8]
def interned : List (Array UInt16 × Addr) := []
def slotsUsed : Nat := 0
def theMethod : MethodId := ⟨1, 1⟩
def args0 : Array Value := #[.int 65]
def aboutOver (below : List Frame) : State where
  vm := { classes := classes, interned := interned.toArray }
  heap := heap
  slotsUsed := slotsUsed
  threads := #[{ frames := .invoking theMethod args0 :: below }]
def below0 : List Frame := [.native { method := ⟨0, 0⟩, args := #[] }]
def about1 : State := aboutOver below0
def p0 : Program := .bare "" "" ""
def e0 : Env := launch0.env 0 0 0
theorem w_frames : about1.frames = Frame.invoking theMethod args0 :: below0 := rfl
set_option maxRecDepth 65536 in
theorem w_args : argsFit about1.vm theMethod args0 = true := by decide +kernel
set_option maxRecDepth 65536 in
theorem w_heap : heapFits about1 = true := by decide +kernel
set_option maxRecDepth 65536 in
theorem w_runnable : about1.curStatus? = some .runnable := by decide +kernel
set_option maxRecDepth 65536 in
theorem w_alone : about1.alone = true := by decide +kernel
set_option maxRecDepth 65536 in
theorem w_named : about1.methodNamed? x = some theMethod := by decide +kernel
set_option maxRecDepth 65536 in
theorem w_hears : about1.hears theMethod below0 = true := by decide +kernel
set_option maxRecDepth 65536 in
theorem w_ripe : about1.ripe theMethod args0 below0 = true := by decide +kernel
theorem w_running : about1.status = .running := rfl
set_option maxRecDepth 65536 in
theorem w_room : about1.hasRoom e0.platform room_1 = true :=
  launch0.hasRoom_least _ room_1 (by decide +kernel) (by decide +kernel) (by decide +kernel) (by decide +kernel) (by decide +kernel) (by decide +kernel)
theorem allAtoms_all (ts : List Jvm.Cond) (a : Array Jvm.Value) (st : Jvm.State) : (allAtoms ts).before a st = ts.all (fun c => c.before a st) := by
  induction ts with
  | nil => rfl
  | cons c t ih =>
    show (Jvm.Cond.and c (allAtoms t)).before a st = _
    rw [Jvm.Cond.before_and, ih, List.all_cons]
def words1 : List Jvm.Cond := Jvm.Cond.code x code maxLocals ret :: tables_1
/-- a 'code' word, met by the world's own term for the bytes: nothing is compared byte by byte -/
theorem code_word {y : MethodName} {bytes : ByteArray} {mx : Nat} {rt : Option FieldType} {a : Array Value} {s : State} {m : MethodId} {meth : Method} {c : Code} (h1 : s.methodNamed? y = some m) (h2 : s.vm.method? m = some meth) (h3 : meth.code = some c) (h4 : c.code = bytes)
    (h5 : (c.maxLocals == mx && c.exceptionTable.isEmpty && decide (c.maxStack ≤ mostOperands) && decide (meth.sig.returnType = rt) && !meth.locks && decide (parseMethodDescriptor y.desc = some meth.sig)) = true) : (Jvm.Cond.code y bytes mx rt).before a s = true := by
  simp only [Bool.and_eq_true, beq_iff_eq, Bool.not_eq_true', decide_eq_true_eq] at h5
  obtain ⟨⟨⟨⟨⟨g1, g2⟩, g3⟩, g4⟩, g5⟩, g6⟩ := h5
  simp [Cond.before, Cond.holds, Cond.value, h1, h2, h3, h4, g1, g2, g3, g4, g5, g6]
def isCode : Jvm.Cond → Bool
  | .code _ _ _ _ => true
  | _ => false
theorem all_split {L : List Jvm.Cond} {P : Jvm.Cond → Bool} (h1 : L.all (fun c => isCode c || P c) = true) (h2 : ∀ c ∈ L.filter isCode, P c = true) : L.all P = true := by
  refine List.all_eq_true.mpr fun c hc => ?_
  have h := List.all_eq_true.mp h1 c hc
  rcases Bool.eq_false_or_eq_true (isCode c) with hi | hi
  · exact h2 c (List.mem_filter.mpr ⟨hc, hi⟩)
  · simpa [hi] using h
set_option maxRecDepth 65536 in
theorem w_c0 : (Jvm.Cond.code x code maxLocals ret).before args0 about1 = true := code_word (m := ⟨1, 1⟩) (meth := k1m1) (c := k1c1) (by decide +kernel) rfl rfl rfl (by decide +kernel)
set_option maxRecDepth 65536 in
theorem w_c1 : (Jvm.Cond.code ({ cls := site_75.cls, name := "isIriChar", desc := "(C)Z" } : Jvm.MethodName) prog_50_method_11_code (1 : Nat) (Option.some Jvm.ClassFile.FieldType.boolean)).before args0 about1 = true := code_word (m := ⟨2, 1⟩) (meth := k2m1) (c := k2c1) (by decide +kernel) rfl rfl rfl (by decide +kernel)
def codes1 : List Jvm.Cond := [Jvm.Cond.code x code maxLocals ret, Jvm.Cond.code ({ cls := site_75.cls, name := "isIriChar", desc := "(C)Z" } : Jvm.MethodName) prog_50_method_11_code (1 : Nat) (Option.some Jvm.ClassFile.FieldType.boolean)]
set_option maxRecDepth 65536 in
theorem codes_eq : words1.filter isCode = codes1 := rfl
theorem w_codes : ∀ c ∈ words1.filter isCode, c.before args0 about1 = true := by
  rw [codes_eq]
  intro c hc
  simp only [codes1, List.mem_cons, List.not_mem_nil, or_false] at hc
  rcases hc with rfl | rfl
  · exact w_c0
  · exact w_c1
set_option maxRecDepth 65536 in
theorem w_t1 : words1.all (fun c => isCode c || c.before args0 about1) = true := by decide +kernel
theorem w_tables : (allAtoms (Jvm.Cond.code x code maxLocals ret :: tables_1)).before args0 about1 = true := by
  rw [allAtoms_all]
  show words1.all (fun c => c.before args0 about1) = true
  refine all_split ?_ w_codes
  rw [w_t1]
set_option maxRecDepth 65536 in
theorem w_case : (Jvm.Cond.and given_1 narrow_1).before args0 about1 = true := by decide +kernel
theorem w_applies : (headSpec (Jvm.Cond.code x code maxLocals ret :: tables_1) room_1).applies x e0.platform about1 = true :=
  (Spec.applies_iff w_frames).mpr ⟨w_running, w_runnable, w_alone, w_named, w_hears, w_ripe, w_room, w_tables⟩
theorem atStart : AtStart classFile x code maxLocals ret World_1 tables_1 room_1 Calls_1 rest_1 Pre_1 launch0 p0 e0 about1 theMethod args0 below0 :=
  ⟨lists_1, trivial, launch0.admits_env _ _ _, launch0.least_env, fairChoices_fair.cas, fairChoices_fair.clock, w_frames, w_args, w_heap, w_applies, trivial, trivial, w_case⟩
end start1
theorem witness_1 : WitnessClaimed_1 := ⟨start1.p0, start1.e0, start1.about1, start1.theMethod, start1.args0, start1.below0, start1.atStart⟩
end Jvm.Pilot.@@N@@
