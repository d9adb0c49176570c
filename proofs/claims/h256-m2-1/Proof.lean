import JvmDerived
import JvmDerived.Pilot.@@N@@Statement
import JvmDerived.Pilot.@@N@@Code
set_option linter.unusedVariables false
set_option linter.unusedSimpArgs false
namespace Jvm.Pilot.@@N@@
open Jvm Jvm.ClassFile Sem Op Lib Jvm.Free Jvm.Stand Jvm.LawKit Jvm.RoadKit Bundle Jvm.Pilot.@@N@@.Jvm.D
/-! the walk in continuation style: 'Fin': from F on the run comes to an end that answers Q -/
section Own
variable {p : Program} {l : Launch} {e : Env} {R : Room} {s : State} {m : MethodId} {args : Array Value} {below : List Frame} {meth : Method} {c : Code} {T : State} {locs : List Loc} {cells slots : Nat}
def OFin (p : Program) (e : Env) (below : List Frame) (Q : Outcome → State → Prop) (F : State) : Prop := ∃ s₂ o, Steps p.tables e below F s₂ ∧ s₂.status = .running ∧ Ended s₂ below o ∧ Q o s₂
def ORet (Q : Option Value → Heap → List Loc → Prop) (s : State) (C S : Nat) (o : Outcome) (U' : State) : Prop := ∃ v L, o = .returned v ∧ Q v U'.heap L ∧ FrameEnd s o U' L C S
theorem OFin.go {Q : Outcome → State → Prop} {F F' : State} (st : ∀ t, Steps p.tables e below F' t → Steps p.tables e below F t) (h : OFin p e below Q F') : OFin p e below Q F := by
  obtain ⟨s2, o, h1, r⟩ := h; exact ⟨s2, o, st _ h1, r⟩
theorem OFin.tr {Q : Outcome → State → Prop} {F F' : State} (st : Steps p.tables e below F F') (h : OFin p e below Q F') : OFin p e below Q F := by
  obtain ⟨s2, o, h1, r⟩ := h; exact ⟨s2, o, st.trans h1, r⟩
variable {Q : Option Value → Heap → List Loc → Prop} {C S : Nat}
theorem finZ (X : Stand p l e R s m args below meth c T locs cells slots) (hx : p.tables.exec = Jvm.exec) (hlocks : meth.locks = false) {t : FieldType} (hret : meth.sig.returnType = some t) (ht : t = .boolean ∨ t = .byte ∨ t = .char ∨ t = .short) {pc : Nat} (hd : decode c.code pc = .ok (.ireturn, 1)) {z z' : Int32} (hz : nar t z = z') (hc : cells ≤ C) (hs : slots ≤ S) {Ls : Array Slot} {rest : List Value} (hQ : Q (some (.int z')) T.heap locs) : OFin p e below (ORet Q s C S) (T.setTop (mkF m pc Ls (.int z :: rest))) := by
  subst hz
  obtain ⟨fs, hr, hrun, hended, hW, hsame⟩ := X.leave (v := some (.int (nar t z))) (fun h => by rw [hret] at h; cases h)
  exact ⟨_, _, retN X hx (t := t) hret ht hd hr, hrun, hended, _, _, rfl, hQ, ⟨_, rfl⟩, hW, hsame.mono hc hs⟩
theorem finI (X : Stand p l e R s m args below meth c T locs cells slots) (hx : p.tables.exec = Jvm.exec) (hlocks : meth.locks = false) (hret : meth.sig.returnType = some .int) {pc : Nat} (hd : decode c.code pc = .ok (.ireturn, 1)) {z : Int32} (hc : cells ≤ C) (hs : slots ≤ S) {Ls : Array Slot} {rest : List Value} (hQ : Q (some (.int z)) T.heap locs) : OFin p e below (ORet Q s C S) (T.setTop (mkF m pc Ls (.int z :: rest))) := by
  obtain ⟨fs, hr, hrun, hended, hW, hsame⟩ := X.leave (v := some (.int z)) (fun h => by rw [hret] at h; cases h)
  exact ⟨_, _, retOut X hx hret rfl (Or.inl ⟨rfl, Or.inl rfl, _, rfl⟩) hd hr, hrun, hended, _, _, rfl, hQ, ⟨_, rfl⟩, hW, hsame.mono hc hs⟩
theorem finJ (X : Stand p l e R s m args below meth c T locs cells slots) (hx : p.tables.exec = Jvm.exec) (hlocks : meth.locks = false) (hret : meth.sig.returnType = some .long) {pc : Nat} (hd : decode c.code pc = .ok (.lreturn, 1)) {z : Int64} (hc : cells ≤ C) (hs : slots ≤ S) {Ls : Array Slot} {rest : List Value} (hQ : Q (some (.long z)) T.heap locs) : OFin p e below (ORet Q s C S) (T.setTop (mkF m pc Ls (.long z :: rest))) := by
  obtain ⟨fs, hr, hrun, hended, hW, hsame⟩ := X.leave (v := some (.long z)) (fun h => by rw [hret] at h; cases h)
  exact ⟨_, _, retOut X hx hret rfl (Or.inr (Or.inl ⟨rfl, rfl, _, rfl⟩)) hd hr, hrun, hended, _, _, rfl, hQ, ⟨_, rfl⟩, hW, hsame.mono hc hs⟩
theorem finD (X : Stand p l e R s m args below meth c T locs cells slots) (hx : p.tables.exec = Jvm.exec) (hlocks : meth.locks = false) (hret : meth.sig.returnType = some .double) {pc : Nat} (hd : decode c.code pc = .ok (.dreturn, 1)) {z : UInt64} (hc : cells ≤ C) (hs : slots ≤ S) {Ls : Array Slot} {rest : List Value} (hQ : Q (some (.double z)) T.heap locs) : OFin p e below (ORet Q s C S) (T.setTop (mkF m pc Ls (.double z :: rest))) := by
  obtain ⟨fs, hr, hrun, hended, hW, hsame⟩ := X.leave (v := some (.double z)) (fun h => by rw [hret] at h; cases h)
  exact ⟨_, _, retOut X hx hret rfl (Or.inr (Or.inr (Or.inl ⟨rfl, rfl, _, rfl⟩))) hd hr, hrun, hended, _, _, rfl, hQ, ⟨_, rfl⟩, hW, hsame.mono hc hs⟩
theorem finA (X : Stand p l e R s m args below meth c T locs cells slots) (hx : p.tables.exec = Jvm.exec) (hlocks : meth.locks = false) {w : Value} (hw : w.isRef = true) {t : FieldType} (hret : meth.sig.returnType = some t) (ht : t.isReference = true) {pc : Nat} (hd : decode c.code pc = .ok (.areturn, 1)) (hc : cells ≤ C) (hs : slots ≤ S) {Ls : Array Slot} {rest : List Value} (hQ : Q (some w) T.heap locs) : OFin p e below (ORet Q s C S) (T.setTop (mkF m pc Ls (w :: rest))) := by
  obtain ⟨fs, hr, hrun, hended, hW, hsame⟩ := X.leave (v := some w) (fun h => by rw [hret] at h; cases h)
  refine ⟨_, _, retOut X hx hret ?_ (Or.inr (Or.inr (Or.inr (Or.inr ⟨rfl, ht, hw⟩)))) hd hr, hrun, hended, _, _, rfl, hQ, ⟨_, rfl⟩, hW, hsame.mono hc hs⟩
  cases w <;> first | (simp [Value.isRef] at hw; done) | (cases t <;> first | rfl | (simp [FieldType.isReference] at ht; done))
theorem finV (X : Stand p l e R s m args below meth c T locs cells slots) (hx : p.tables.exec = Jvm.exec) (hlocks : meth.locks = false) (hret : meth.sig.returnType = none) {pc : Nat} (hd : decode c.code pc = .ok (.return_, 1)) (hc : cells ≤ C) (hs : slots ≤ S) {Ls : Array Slot} (hQ : Q none T.heap locs) : OFin p e below (ORet Q s C S) (T.setTop (mkF m pc Ls [])) := by
  obtain ⟨fs, hr, hrun, hended, hW, hsame⟩ := X.leave (v := none) (fun _ => rfl)
  exact ⟨_, _, X.returnOut hx hret hd hr, hrun, hended, _, _, rfl, hQ, ⟨_, rfl⟩, hW, hsame.mono hc hs⟩
end Own
/-- a boolean as the int that bears it -/
def bi (P : Prop) [Decidable P] : Int32 := if P then 1 else 0
theorem bi_t {P : Prop} [Decidable P] (h : P) : bi P = 1 := if_pos h
theorem bi_f {P : Prop} [Decidable P] (h : ¬ P) : bi P = 0 := if_neg h
theorem nar_bi (P : Prop) [Decidable P] : nar .boolean (bi P) = bi P := by unfold bi; split <;> rfl
theorem bi_iff {P Q : Prop} [Decidable P] [Decidable Q] : bi P = bi Q ↔ (P ↔ Q) := by
  unfold bi; by_cases h : P <;> by_cases k : Q <;> simp [h, k]
theorem bi0 {P : Prop} [Decidable P] : (bi P = 0) ↔ ¬ P := by unfold bi; by_cases h : P <;> simp [h]
theorem bi_ne_t {P : Prop} [Decidable P] (h : P) : ifCond.holds .ne (bi P) = true := by rw [bi_t h]; rfl
theorem bi_ne_f {P : Prop} [Decidable P] (h : ¬ P) : ifCond.holds .ne (bi P) = false := by rw [bi_f h]; rfl
theorem bi_eq_t {P : Prop} [Decidable P] (h : ¬ P) : ifCond.holds .eq (bi P) = true := by rw [bi_f h]; rfl
theorem bi_eq_f {P : Prop} [Decidable P] (h : P) : ifCond.holds .eq (bi P) = false := by rw [bi_t h]; rfl
theorem lc_lt_t {x y : Int64} (h : x < y) : ifCond.holds .lt (lcmpW x y) = true := (if0 _ _).trans (tlt ((lw_lt x y).mpr h)).1
theorem lc_lt_f {x y : Int64} (h : ¬ x < y) : ifCond.holds .lt (lcmpW x y) = false := (if0 _ _).trans (flt fun q => h ((lw_lt x y).mp q)).1
theorem lc_ge_t {x y : Int64} (h : ¬ x < y) : ifCond.holds .ge (lcmpW x y) = true := (if0 _ _).trans (flt fun q => h ((lw_lt x y).mp q)).2.1
theorem lc_ge_f {x y : Int64} (h : x < y) : ifCond.holds .ge (lcmpW x y) = false := (if0 _ _).trans (tlt ((lw_lt x y).mpr h)).2.1
theorem lc_gt_t {x y : Int64} (h : y < x) : ifCond.holds .gt (lcmpW x y) = true := (if0 _ _).trans (tlt ((lw_gt x y).mpr h)).2.2.1
theorem lc_gt_f {x y : Int64} (h : ¬ y < x) : ifCond.holds .gt (lcmpW x y) = false := (if0 _ _).trans (flt fun q => h ((lw_gt x y).mp q)).2.2.1
theorem lc_le_t {x y : Int64} (h : ¬ y < x) : ifCond.holds .le (lcmpW x y) = true := (if0 _ _).trans (flt fun q => h ((lw_gt x y).mp q)).2.2.2
theorem lc_le_f {x y : Int64} (h : y < x) : ifCond.holds .le (lcmpW x y) = false := (if0 _ _).trans (tlt ((lw_gt x y).mpr h)).2.2.2
theorem lc_eq_t {x y : Int64} (h : x = y) : ifCond.holds .eq (lcmpW x y) = true := (if0 _ _).trans (teq ((lw_eq x y).mpr h)).1
theorem lc_eq_f {x y : Int64} (h : ¬ x = y) : ifCond.holds .eq (lcmpW x y) = false := (if0 _ _).trans (feq fun q => h ((lw_eq x y).mp q)).1
theorem lc_ne_t {x y : Int64} (h : ¬ x = y) : ifCond.holds .ne (lcmpW x y) = true := (if0 _ _).trans (feq fun q => h ((lw_eq x y).mp q)).2
theorem lc_ne_f {x y : Int64} (h : x = y) : ifCond.holds .ne (lcmpW x y) = false := (if0 _ _).trans (teq ((lw_eq x y).mpr h)).2
/-! arrays by their places -/
def upd {α : Type} (f : Nat → α) (i : Nat) (v : α) : Nat → α := fun j => if j = i then v else f j
theorem upd_hit {α : Type} (f : Nat → α) (i : Nat) (v : α) : upd f i v i = v := if_pos rfl
theorem upd_miss {α : Type} {f : Nat → α} {i j : Nat} {v : α} (h : j ≠ i) : upd f i v j = f j := if_neg h
def Ara (Z : State) (h : Heap) (a : Addr) (ty : FieldType) (n : Nat) (f : Nat → Value) : Prop := ∃ c : Cell, Arr Z h a c ty ∧ c.slots.size = n ∧ n < 2 ^ 31 ∧ ∀ i, i < n → c.slots[i]? = some (f i)
section Ara
variable {Z : State} {h h' : Heap} {a b : Addr} {ty : FieldType} {n : Nat} {f f' : Nat → Value} {sl : Nat} {v : Value} {ws : List Addr}
theorem Ara.lt (F : Ara Z h a ty n f) : a < h.size := by obtain ⟨c, A, -⟩ := F; exact A.lt
theorem Ara.ext (F : Ara Z h a ty n f) (E : Ext h h') : Ara Z h' a ty n f := by obtain ⟨c, A, r⟩ := F; exact ⟨c, A.ext E, r⟩
theorem Ara.other (F : Ara Z h b ty n f) (W : Wr h h' a sl v) (q : b ≠ a) : Ara Z h' b ty n f := by obtain ⟨c, A, r⟩ := F; exact ⟨c, A.other W q, r⟩
theorem Ara.keep (F : Ara Z h a ty n f) (K : Keep h h' ws) (q : a ∉ ws) : Ara Z h' a ty n f := by obtain ⟨c, A, r⟩ := F; exact ⟨c, ⟨K.2.1 a c A.1 q, A.2⟩, r⟩
theorem Ara.set (F : Ara Z h a ty n f) (W : Wr h h' a sl v) : Ara Z h' a ty n (upd f sl v) := by
  obtain ⟨c, A, r1, r2, r3⟩ := F
  refine ⟨_, A.same W, by rw [sz_set]; exact r1, r2, fun i hi => ?_⟩
  by_cases q : i = sl
  · subst q; rw [upd_hit]; simp [Cell.setSlot, r1, hi]
  · rw [upd_miss q]; simp only [Cell.setSlot]; rw [Array.getElem?_setIfInBounds_ne (fun z => q z.symm)]; exact r3 i hi
theorem Ara.new {k : ClassId} {z : Int32} (A : Arr Z h a (newA k ty z) ty) (hn : z.toNatClampNeg = n) : Ara Z h a ty n (fun _ => defaultValue ty) := by
  refine ⟨_, A, by rw [sz_new]; exact hn, ?_, fun i hi => ?_⟩
  · rw [← hn]; have := z.toInt_lt; unfold Int32.toNatClampNeg; omega
  · rw [← hn] at hi; simp [newA, hi]
theorem Ara.congr (F : Ara Z h a ty n f) (q : ∀ i, i < n → f i = f' i) : Ara Z h a ty n f' := by obtain ⟨c, A, r1, r2, r3⟩ := F; exact ⟨c, A, r1, r2, fun i hi => by rw [← q i hi]; exact r3 i hi⟩
variable {p : Program} {l : Launch} {e : Env} {R : Room} {s : State} {m : MethodId} {args : Array Value} {below : List Frame} {meth : Method} {c : Code} {T : State} {locs : List Loc} {cells slots : Nat} {j : Int32} {i : Nat} {rest : List Value} {g : JFrame} {t : State} {x : Value}
theorem hin_of {cl : Cell} (S : cl.slots.size = n) (hj0 : ¬ j < 0) (hj : j.toNatClampNeg = i) (hi : i < n) : ¬ (j < 0 ∨ cl.slots.size ≤ j.toNatClampNeg) := by rw [S, hj]; exact fun q => q.elim hj0 (Nat.not_le.mpr hi)
theorem rdB (X : Stand p l e R s m args below meth c T locs cells slots) (hx : p.tables.exec = Jvm.exec) (hZ : Z.Warmed39 s.vm) (eT : T.heap = h) (F : Ara Z h a .byte n f) (hj0 : ¬ j < 0) (hj : j.toNatClampNeg = i) (hi : i < n) (hv : f i = x) (hg : g.method = m) (hs : g.stack = .int j :: .ref a :: rest) (hd : decode c.code g.pc = .ok (.baload, 1))
    (k : Steps p.tables e below (T.setTop { g with pc := g.pc + 1, stack := x :: rest }) t) : Steps p.tables e below (T.setTop g) t := by
  obtain ⟨cl, A, r1, r2, r3⟩ := F
  exact X.baloadBytes hx (by rw [eT]; exact A.1) (State.isArrayOf_alike hZ.alike A.2.1) A.2.2 (hin_of r1 hj0 hj hi) (by rw [hj, r3 i hi, hv]) hg hs hd _ k
theorem rdI (X : Stand p l e R s m args below meth c T locs cells slots) (hx : p.tables.exec = Jvm.exec) (hZ : Z.Warmed39 s.vm) (eT : T.heap = h) (F : Ara Z h a .int n f) (hj0 : ¬ j < 0) (hj : j.toNatClampNeg = i) (hi : i < n) (hv : f i = x) (hg : g.method = m) (hs : g.stack = .int j :: .ref a :: rest) (hd : decode c.code g.pc = .ok (.iaload, 1))
    (k : Steps p.tables e below (T.setTop { g with pc := g.pc + 1, stack := x :: rest }) t) : Steps p.tables e below (T.setTop g) t := by
  obtain ⟨cl, A, r1, r2, r3⟩ := F
  exact X.iaload hx (by rw [eT]; exact A.1) (State.isArrayOf_alike hZ.alike A.2.1) A.2.2 (hin_of r1 hj0 hj hi) (by rw [hj, r3 i hi, hv]) hg hs hd _ k
theorem rdJ (X : Stand p l e R s m args below meth c T locs cells slots) (hx : p.tables.exec = Jvm.exec) (hZ : Z.Warmed39 s.vm) (eT : T.heap = h) (F : Ara Z h a .long n f) (hj0 : ¬ j < 0) (hj : j.toNatClampNeg = i) (hi : i < n) (hv : f i = x) (hg : g.method = m) (hs : g.stack = .int j :: .ref a :: rest) (hd : decode c.code g.pc = .ok (.laload, 1))
    (k : Steps p.tables e below (T.setTop { g with pc := g.pc + 1, stack := x :: rest }) t) : Steps p.tables e below (T.setTop g) t := by
  obtain ⟨cl, A, r1, r2, r3⟩ := F
  exact X.laload hx (by rw [eT]; exact A.1) (State.isArrayOf_alike hZ.alike A.2.1) A.2.2 (hin_of r1 hj0 hj hi) (by rw [hj, r3 i hi, hv]) hg hs hd _ k
theorem rdR (X : Stand p l e R s m args below meth c T locs cells slots) (hx : p.tables.exec = Jvm.exec) (hZ : Z.Warmed39 s.vm) (eT : T.heap = h) (F : Ara Z h a ty n f) (hty : ty.isReference = true) (hj0 : ¬ j < 0) (hj : j.toNatClampNeg = i) (hi : i < n) (hv : f i = x) (hg : g.method = m) (hs : g.stack = .int j :: .ref a :: rest) (hd : decode c.code g.pc = .ok (.aaload, 1))
    (k : Steps p.tables e below (T.setTop { g with pc := g.pc + 1, stack := x :: rest }) t) : Steps p.tables e below (T.setTop g) t := by
  obtain ⟨cl, A, r1, r2, r3⟩ := F
  exact X.aaload hx (by rw [eT]; exact A.1) (State.isArrayOf_alike hZ.alike A.2.1) hty A.2.2 (hin_of r1 hj0 hj hi) (by rw [hj, r3 i hi, hv]) hg hs hd _ k
theorem alen (X : Stand p l e R s m args below meth c T locs cells slots) (hx : p.tables.exec = Jvm.exec) (hZ : Z.Warmed39 s.vm) (eT : T.heap = h) (F : Ara Z h a ty n f) {z : Int32} (hz : n.toInt32 = z) (hg : g.method = m) (hs : g.stack = .ref a :: rest) (hd : decode c.code g.pc = .ok (.arraylength, 1))
    (k : Steps p.tables e below (T.setTop { g with pc := g.pc + 1, stack := .int z :: rest }) t) : Steps p.tables e below (T.setTop g) t := by
  obtain ⟨cl, A, r1, r2, r3⟩ := F
  refine X.arraylength hx (by rw [eT]; exact A.1) (State.isArrayOf_alike hZ.alike A.2.1) hg hs hd _ ?_
  rw [r1, hz]; exact k
theorem wrB (X : Stand p l e R s m args below meth c T locs cells slots) (hx : p.tables.exec = Jvm.exec) (hZ : Z.Warmed39 s.vm) (eT : T.heap = h) (F : Ara Z h a .byte n f) {y : Int32} (hj0 : ¬ j < 0) (hj : j.toNatClampNeg = i) (hi : i < n) {y' : Int32} (hy : nar .byte y = y') (hg : g.method = m) (hs : g.stack = .int y :: .int j :: .ref a :: rest) (hd : decode c.code g.pc = .ok (.bastore, 1)) :
    ∃ T' h', Stand p l e R s m args below meth c T' (locs ++ [⟨a, i⟩]) cells slots ∧ T'.heap = h' ∧ Wr h h' a i (.int y') ∧ ∀ target, Steps p.tables e below (T'.setTop { g with pc := g.pc + 1, stack := rest }) target → Steps p.tables e below (T.setTop g) target := by
  subst hj hy
  obtain ⟨cl, A, r1, r2, r3⟩ := F
  exact stB X hx hZ eT A (hin_of r1 hj0 rfl hi) hg hs hd
theorem wrI (X : Stand p l e R s m args below meth c T locs cells slots) (hx : p.tables.exec = Jvm.exec) (hZ : Z.Warmed39 s.vm) (eT : T.heap = h) (F : Ara Z h a .int n f) {y : Int32} (hj0 : ¬ j < 0) (hj : j.toNatClampNeg = i) (hi : i < n) (hg : g.method = m) (hs : g.stack = .int y :: .int j :: .ref a :: rest) (hd : decode c.code g.pc = .ok (.iastore, 1)) :
    ∃ T' h', Stand p l e R s m args below meth c T' (locs ++ [⟨a, i⟩]) cells slots ∧ T'.heap = h' ∧ Wr h h' a i (.int y) ∧ ∀ target, Steps p.tables e below (T'.setTop { g with pc := g.pc + 1, stack := rest }) target → Steps p.tables e below (T.setTop g) target := by
  subst hj
  obtain ⟨cl, A, r1, r2, r3⟩ := F
  exact stI X hx hZ eT A (hin_of r1 hj0 rfl hi) hg hs hd
theorem wrJ (X : Stand p l e R s m args below meth c T locs cells slots) (hx : p.tables.exec = Jvm.exec) (hZ : Z.Warmed39 s.vm) (eT : T.heap = h) (F : Ara Z h a .long n f) {y : Int64} (hj0 : ¬ j < 0) (hj : j.toNatClampNeg = i) (hi : i < n) (hg : g.method = m) (hs : g.stack = .long y :: .int j :: .ref a :: rest) (hd : decode c.code g.pc = .ok (.lastore, 1)) :
    ∃ T' h', Stand p l e R s m args below meth c T' (locs ++ [⟨a, i⟩]) cells slots ∧ T'.heap = h' ∧ Wr h h' a i (.long y) ∧ ∀ target, Steps p.tables e below (T'.setTop { g with pc := g.pc + 1, stack := rest }) target → Steps p.tables e below (T.setTop g) target := by
  subst hj
  obtain ⟨cl, A, r1, r2, r3⟩ := F
  exact stJ X hx hZ eT A (hin_of r1 hj0 rfl hi) hg hs hd
end Ara
theorem wr_le {h h' : Heap} {a : Addr} {sl : Nat} {v : Value} (W : Wr h h' a sl v) : h.size ≤ h'.size := Nat.le_of_eq W.size.symm
theorem up_lt {k a b : Nat} (h : a < k) (g : b = k) : a ≠ b := by omega
theorem nar_b (y : Int32) : nar .byte y.toInt8.toInt32 = y.toInt8.toInt32 := by show y.toInt8.toInt32.toInt8.toInt32 = _; rw [Int8.toInt8_toInt32]
theorem Sta_keep {Z : State} {h h' : Heap} {C n d : String} {v : Value} {ws : List Addr} {k : Nat} (F : Sta Z h C n d v) (K : Keep h h' ws) (q : ∀ x ∈ ws, Z.heap.size ≤ x) (hst : ∀ cf kk i f st, Z.fieldFound? C n d = some (cf, kk, i, f) → kk.statics = some st → st < Z.heap.size) : Sta Z h' C n d v := by
  obtain ⟨cf, i, kk, f, st, cell, h1, h2, h3, h4, h5, r⟩ := F
  exact ⟨cf, i, kk, f, st, cell, h1, h2, h3, h4, K.2.1 _ _ h5 (fun z => absurd (hst _ _ _ _ _ h1 h4) (Nat.not_lt.mpr (q _ z))), r⟩
theorem eqv_r {Z : State} {args : Array Value} {X F : Term} {idx : List Nat} {y : Addr} (hF : F.eval args Z none idx Z = some (.ref y)) (h : (Cond.eq X F).value args Z none Z idx = some true) : X.eval args Z none idx Z = some (.ref y) := by
  cases hx : X.eval args Z none idx Z with
  | none => simp [Cond.value, hF, hx] at h
  | some x => cases x <;> simp [Cond.value, hF, hx] at h ⊢ <;> exact h
/-! calls by a contract, in one piece -/
section Calls
variable {p : Program} {l : Launch} {e : Env} {R : Room} {s : State} {m : MethodId} {args : Array Value} {below : List Frame} {meth : Method} {c : Code} {T : State} {locs : List Loc} {cells slots : Nat} {Z : State} {a0 : Array Value} {h : Heap}
abbrev Meets1 (l : Launch) (y : MethodName) (bytes : ByteArray) (maxL : Nat) (ret : Option FieldType) (rm : Room) (Z : State) (as' : Array Value) (h : Heap) (Q : Option Value → Heap → List Loc → Prop) : Prop :=
  MetFree l y (head1 [Cond.code y bytes maxL ret] rm) (fun a U => a = as' ∧ Z.Warmed39 U.vm ∧ U.heap = h) (fun _ _ _ _ _ => True) (fun _ U o U' => ∃ v L, o = .returned v ∧ Q v U'.heap L ∧ FrameEnd U o U' L rm.cells rm.slots)
theorem callQ (X : Stand p l e R s m args below meth c T locs cells slots) (hx : p.tables.exec = Jvm.exec) (hZ : Z.Warmed39 s.vm) {own : String} {index : Nat} {y : MethodName} {bytes : ByteArray} {maxL : Nat} {ret : Option FieldType} (hown : s.vm.findClass own = some m.cls)
    (w1 : (Cond.methodLink own index y).before a0 Z = true) (w2 : (Cond.static y).before a0 Z = true) (w3 : (Cond.initialized y.cls).before a0 Z = true) (w4 : (Cond.code y bytes maxL ret).before a0 Z = true) (hy : y.cls ≠ "java/lang/invoke/MethodHandle" ∧ y.cls ≠ "java/lang/invoke/VarHandle")
    {rm : Room} {argsL rest : List Value} {Q : Option Value → Heap → List Loc → Prop} (hM : Meets1 l y bytes maxL ret rm Z argsL.toArray h Q) {W : Nat} (hf : rm.frames + 1 ≤ R.frames) (hl : W + (maxL + 11) + rm.locals ≤ R.locals) (eT : T.heap = h)
    {g : JFrame} (hg : g.method = m) (hsize : g.locals.size = c.maxLocals) (hlen : ∀ sig, parseMethodDescriptor y.desc = some sig → argsL.length = sig.parameters.length) (hstack : g.stack = argsL.reverse ++ rest) (hW : 2 * g.monitorRoom + (rest.map fun v => v.category).sum ≤ W) (hd : decode c.code g.pc = .ok (.invokestatic index, 3)) (hc : cells + rm.cells ≤ R.cells) (hs : slots + rm.slots ≤ R.slots) :
    ∃ v T' L, Stand p l e R s m args below meth c T' (locs ++ L) (cells + rm.cells) (slots + rm.slots) ∧ Q v T'.heap L ∧ ∀ target, Steps p.tables e below (T'.setTop { g with pc := g.pc + 3, stack := v.toList ++ rest }) target → Steps p.tables e below (T.setTop g) target := by
  obtain ⟨v, _, ⟨T', L', k', n'⟩, -, X', ⟨L, hQ, hl', hk', hn'⟩, st⟩ := Jvm.LawKit.callS X hx hown (mvT hZ w1) (mvT hZ w2) (mvT hZ w3) (mvT hZ w4) hy (backOf (W := W) hM hZ w4 w3 hf hl) hg hsize hlen hstack hW hd (fun _ _ => ⟨rfl, eT, hc, hs⟩)
  dsimp only [Pt.U, Pt.locs, Pt.cells, Pt.slots] at X' hl' hk' hn' st hQ
  subst hl' hk' hn'
  exact ⟨v, T', L, X', hQ, st⟩
theorem specQ (X : Stand p l e R s m args below meth c T locs cells slots) (hx : p.tables.exec = Jvm.exec) (hZ : Z.Warmed39 s.vm) {own : String} {index : Nat} {y : MethodName} {bytes : ByteArray} {maxL : Nat} (hy1 : y.name = "<init>") (hown : s.vm.findClass own = some m.cls)
    (w1 : (Cond.methodLink own index y).before a0 Z = true) (w2 : (Cond.instanceMethod y).before a0 Z = true) (w3 : (Cond.initialized y.cls).before a0 Z = true) (w4 : (Cond.code y bytes maxL none).before a0 Z = true) (hy : y.cls ≠ "java/lang/invoke/MethodHandle" ∧ y.cls ≠ "java/lang/invoke/VarHandle")
    {rm : Room} {a : Addr} {argsL rest : List Value} {Q : Option Value → Heap → List Loc → Prop} (hM : Meets1 l y bytes maxL none rm Z (.ref a :: argsL).toArray h Q) {W : Nat} (hf : rm.frames + 1 ≤ R.frames) (hl : W + (maxL + 11) + rm.locals ≤ R.locals) (eT : T.heap = h)
    {g : JFrame} (hg : g.method = m) (hsize : g.locals.size = c.maxLocals) (hlen : ∀ sig, parseMethodDescriptor y.desc = some sig → argsL.length = sig.parameters.length) (hstack : g.stack = argsL.reverse ++ .ref a :: rest) (hW : 2 * g.monitorRoom + (rest.map fun v => v.category).sum ≤ W) (hd : decode c.code g.pc = .ok (.invokespecial index, 3)) (hc : cells + rm.cells ≤ R.cells) (hs : slots + rm.slots ≤ R.slots) :
    ∃ v T' L, Stand p l e R s m args below meth c T' (locs ++ L) (cells + rm.cells) (slots + rm.slots) ∧ Q v T'.heap L ∧ ∀ target, Steps p.tables e below (T'.setTop { g with pc := g.pc + 3, stack := v.toList ++ rest }) target → Steps p.tables e below (T.setTop g) target := by
  obtain ⟨v, _, ⟨T', L', k', n'⟩, -, X', ⟨L, hQ, hl', hk', hn'⟩, st⟩ := X.specialBack hx hy1 hown (mvT hZ w1) (mvT hZ w2) (mvT hZ w4) hy (backOf (W := W) hM hZ w4 w3 hf hl) hg hsize (Steps.refl _) hlen hstack hW hd (fun _ _ => ⟨rfl, eT, hc, hs⟩)
  dsimp only [Pt.U, Pt.locs, Pt.cells, Pt.slots] at X' hl' hk' hn' st hQ
  subst hl' hk' hn'
  exact ⟨v, T', L, X', hQ, fun t k => st.trans k⟩
theorem virtQ (X : Stand p l e R s m args below meth c T locs cells slots) (hx : p.tables.exec = Jvm.exec) (hZ : Z.Warmed39 s.vm) {own : String} {index : Nat} {y : MethodName} {bytes : ByteArray} {maxL : Nat} {ret : Option FieldType} (hown : s.vm.findClass own = some m.cls)
    (w1 : (Cond.methodLink own index y).before a0 Z = true) (w2 : (Cond.instanceMethod y).before a0 Z = true) (w3 : (Cond.initialized y.cls).before a0 Z = true) (w4 : (Cond.code y bytes maxL ret).before a0 Z = true) (w5 : (Cond.declares y).before a0 Z = true) (w6 : (Cond.selects y.cls y y).before a0 Z = true) (hy : y.cls ≠ "java/lang/invoke/MethodHandle" ∧ y.cls ≠ "java/lang/invoke/VarHandle")
    {rm : Room} {a : Addr} (E : Exa Z h a y.cls) {argsL rest : List Value} {Q : Option Value → Heap → List Loc → Prop} (hM : Meets1 l y bytes maxL ret rm Z (.ref a :: argsL).toArray h Q) {W : Nat} (hf : rm.frames + 1 ≤ R.frames) (hl : W + (maxL + 11) + rm.locals ≤ R.locals) (eT : T.heap = h)
    {g : JFrame} (hg : g.method = m) (hsize : g.locals.size = c.maxLocals) (hlen : ∀ sig, parseMethodDescriptor y.desc = some sig → argsL.length = sig.parameters.length) (hstack : g.stack = argsL.reverse ++ .ref a :: rest) (hW : 2 * g.monitorRoom + (rest.map fun v => v.category).sum ≤ W) (hd : decode c.code g.pc = .ok (.invokevirtual index, 3)) (hc : cells + rm.cells ≤ R.cells) (hs : slots + rm.slots ≤ R.slots) :
    ∃ v T' L, Stand p l e R s m args below meth c T' (locs ++ L) (cells + rm.cells) (slots + rm.slots) ∧ Q v T'.heap L ∧ ∀ target, Steps p.tables e below (T'.setTop { g with pc := g.pc + 3, stack := v.toList ++ rest }) target → Steps p.tables e below (T.setTop g) target := by
  obtain ⟨cq, kq, qa, qb, qc⟩ := isOf hZ eT E
  obtain ⟨v, _, ⟨T', L', k', n'⟩, -, X', ⟨L, hQ, hl', hk', hn'⟩, st⟩ := X.virtualBack hx (y := y) (z := y) hown (mvT hZ w1) (mvT hZ w5) (notFace_of_selects (args := #[]) (mvT hZ w6)) (mvT hZ w6) (mvT hZ w2) hy (backOf (W := W) hM hZ w4 w3 hf hl) qa qc hg hsize (Steps.refl _) hlen hstack hW hd (fun _ _ => ⟨rfl, eT, hc, hs⟩)
  dsimp only [Pt.U, Pt.locs, Pt.cells, Pt.slots] at X' hl' hk' hn' st hQ
  subst hl' hk' hn'
  exact ⟨v, T', L, X', hQ, fun t k => st.trans k⟩
theorem privS {Z s : State} {a0 args : Array Value} {y : MethodName} {kk : Nat} (hZ : Z.Warmed39 s.vm) (w2 : (Cond.instanceMethod y).before a0 Z = true) (w5 : (Cond.privateMethod y).before a0 Z = true) (w6 : (Cond.instantiable y.cls kk).before a0 Z = true) (hy : y.cls ≠ "java/lang/invoke/MethodHandle" ∧ y.cls ≠ "java/lang/invoke/VarHandle") : (Cond.selects y.cls y y).before args s = true := by
  have w := mvT (args := args) hZ w6
  obtain ⟨c, k, h1, h2, -, h3, -⟩ := Cond.instantiable_spec (show (Cond.instantiable y.cls kk).holds args s none s [] = true from w)
  exact selects_self_of_private h1 h2 (Bool.or_eq_false_iff.mp h3).1 (Cond.privateMethod_at (mvP hZ w5 (args := #[]))) (mvT hZ w2) hy
theorem privQ (X : Stand p l e R s m args below meth c T locs cells slots) (hx : p.tables.exec = Jvm.exec) (hZ : Z.Warmed39 s.vm) {own : String} {index : Nat} {y : MethodName} {bytes : ByteArray} {maxL : Nat} {ret : Option FieldType} (hown : s.vm.findClass own = some m.cls)
    (w1 : (Cond.methodLink own index y).before a0 Z = true) (w2 : (Cond.instanceMethod y).before a0 Z = true) (w3 : (Cond.initialized y.cls).before a0 Z = true) (w4 : (Cond.code y bytes maxL ret).before a0 Z = true) (w5 : (Cond.privateMethod y).before a0 Z = true) {kk : Nat} (w6 : (Cond.instantiable y.cls kk).before a0 Z = true) (hy : y.cls ≠ "java/lang/invoke/MethodHandle" ∧ y.cls ≠ "java/lang/invoke/VarHandle")
    {rm : Room} {a : Addr} {C : String} (E : Exa Z h a C) {argsL rest : List Value} {Q : Option Value → Heap → List Loc → Prop} (hM : Meets1 l y bytes maxL ret rm Z (.ref a :: argsL).toArray h Q) {W : Nat} (hf : rm.frames + 1 ≤ R.frames) (hl : W + (maxL + 11) + rm.locals ≤ R.locals) (eT : T.heap = h)
    {g : JFrame} (hg : g.method = m) (hsize : g.locals.size = c.maxLocals) (hlen : ∀ sig, parseMethodDescriptor y.desc = some sig → argsL.length = sig.parameters.length) (hstack : g.stack = argsL.reverse ++ .ref a :: rest) (hW : 2 * g.monitorRoom + (rest.map fun v => v.category).sum ≤ W) (hd : decode c.code g.pc = .ok (.invokevirtual index, 3)) (hc : cells + rm.cells ≤ R.cells) (hs : slots + rm.slots ≤ R.slots) :
    ∃ v T' L, Stand p l e R s m args below meth c T' (locs ++ L) (cells + rm.cells) (slots + rm.slots) ∧ Q v T'.heap L ∧ ∀ target, Steps p.tables e below (T'.setTop { g with pc := g.pc + 3, stack := v.toList ++ rest }) target → Steps p.tables e below (T.setTop g) target := by
  obtain ⟨cq, q1, q2⟩ := E.cell
  obtain ⟨v, _, ⟨T', L', k', n'⟩, -, X', ⟨L, hQ, hl', hk', hn'⟩, st⟩ := X.privateBack hx (y := y) hown (mvT hZ w1) (mvT hZ w2) (privS hZ w2 w5 w6 hy) (Cond.privateMethod_at (mvP hZ w5 (args := #[]))) (mvT hZ w4) hy (backOf (W := W) hM hZ w4 w3 hf hl) hg hsize (Steps.refl _) (a := a) (by rw [eT]; exact q1) q2 hlen hstack hW hd (fun _ _ => ⟨rfl, eT, hc, hs⟩)
  dsimp only [Pt.U, Pt.locs, Pt.cells, Pt.slots] at X' hl' hk' hn' st hQ
  subst hl' hk' hn'
  exact ⟨v, T', L, X', hQ, fun t k => st.trans k⟩
end Calls
/-- a constructor that the pool's entry, resolved already, names (a methodRef word) -/
theorem specRefQ {p : Program} {l : Launch} {e : Env} {R : Room} {s : State} {m : MethodId} {args : Array Value} {below : List Frame} {meth : Method} {c : Code} {T : State} {locs : List Loc} {cells slots : Nat} {Z : State} {a0 : Array Value} {h : Heap}
    (X : Stand p l e R s m args below meth c T locs cells slots) (hx : p.tables.exec = Jvm.exec) (hZ : Z.Warmed39 s.vm) {own : String} {index : Nat} {y : MethodName} {bytes : ByteArray} {maxL : Nat} (hy1 : y.name = "<init>") (hown : s.vm.findClass own = some m.cls)
    (w1 : (Cond.methodRef own index y).before a0 Z = true) (w2 : (Cond.instanceMethod y).before a0 Z = true) (w3 : (Cond.initialized y.cls).before a0 Z = true) (w4 : (Cond.code y bytes maxL none).before a0 Z = true) (hy : y.cls ≠ "java/lang/invoke/MethodHandle" ∧ y.cls ≠ "java/lang/invoke/VarHandle")
    {rm : Room} {a : Addr} {argsL rest : List Value} {Q : Option Value → Heap → List Loc → Prop} (hM : Meets1 l y bytes maxL none rm Z (.ref a :: argsL).toArray h Q) {W : Nat} (hf : rm.frames + 1 ≤ R.frames) (hl : W + (maxL + 11) + rm.locals ≤ R.locals) (eT : T.heap = h)
    {g : JFrame} (hg : g.method = m) (hsize : g.locals.size = c.maxLocals) (hlen : ∀ sig, parseMethodDescriptor y.desc = some sig → argsL.length = sig.parameters.length) (hstack : g.stack = argsL.reverse ++ .ref a :: rest) (hW : 2 * g.monitorRoom + (rest.map fun v => v.category).sum ≤ W) (hd : decode c.code g.pc = .ok (.invokespecial index, 3)) (hc : cells + rm.cells ≤ R.cells) (hs : slots + rm.slots ≤ R.slots) :
    ∃ v T' L, Stand p l e R s m args below meth c T' (locs ++ L) (cells + rm.cells) (slots + rm.slots) ∧ Q v T'.heap L ∧ ∀ target, Steps p.tables e below (T'.setTop { g with pc := g.pc + 3, stack := v.toList ++ rest }) target → Steps p.tables e below (T.setTop g) target := by
  have hZT : Z.Warmed39 T.vm := wtrans hZ X.warmed
  obtain ⟨mz, hnz⟩ := Cond.code_named w4
  have r1 := Cond.methodRef_warmed39 hZT hnz hy w1
  have hown' : (Z.setVm T.vm).vm.findClass own = some m.cls := by
    show T.vm.findClass own = _
    rw [X.warmed.alike.findClass]; exact hown
  obtain ⟨m1, c1, f1, rd, fc, nr⟩ := Cond.methodRef_named e hown' (show (Cond.methodRef own index y).holds a0 (Z.setVm T.vm) none (Z.setVm T.vm) [] = true from r1)
  obtain ⟨mk, methM, hnamed, hmethM, hst, hab⟩ := Cond.instanceMethod_spec (mvT (args := args) hZ w2)
  obtain ⟨methM', cM, hm', -, -, -, -, -, -, hsig⟩ := Cond.code_spec hnamed (mvT (args := args) hZ w4)
  cases hmethM.symm.trans hm'
  have hnT := X.named hnamed
  have hn2 : (Z.setVm T.vm).methodNamed? y = some mk := hnT
  have e1 : m1 = mk := Option.some.inj (f1.symm.trans (State.methodFound?_of_named hn2 hy))
  have e2 : c1 = mk.cls := Option.some.inj (fc.symm.trans (findClass_of_methodNamed hn2))
  subst e1 e2
  obtain ⟨kT, hkT, -⟩ := className_of_methodNamed hnT
  have hmT : T.vm.method? m1 = some methM := by rw [X.warmed.alike.method?]; exact hmethM
  obtain ⟨q1, q2⟩ := name_of_methodNamed hnT hmT
  have hfound : lookupSpecial T.vm m1.cls "<init>" methM.desc = .method m1 := by
    rw [q2, ← hy1]; exact lookupSpecial_of_named hnT hmT hst
  obtain ⟨v, ⟨T', L', k', n'⟩, X', ⟨L, hQ, hl', hk', hn'⟩, hsteps⟩ := (backOf (R := R) (W := W) (p := p) (e := e) (below := below) (s := s) (args := args) (len := 3) hM hZ w4 w3 hf hl) m meth c ⟨T, locs, cells, slots⟩ { g with stack := rest } (.invokespecial index) m1 (.ref a :: argsL).toArray X hg hsize hd hW hnT ⟨rfl, eT, hc, hs⟩
  dsimp only [Pt.U, Pt.locs, Pt.cells, Pt.slots] at X' hl' hk' hn' hsteps hQ
  subst hl' hk' hn'
  refine ⟨v, T', L, X', hQ, fun t k => Steps.trans ?_ k⟩
  refine Steps.trans ?_ hsteps
  subst hg
  jvm_step X.here [hx, hd, invokespecial.wp_init (e := e) (s := T) (k := kT) (meth := methM) (m := m1) (a := a) (args := argsL) (rest := rest) (f := g) X.here.top nr rd hkT hmT (by rw [q1]; exact hy1) hst hab hfound (hlen _ hsig) hstack]
  first | (intro acts; rw [doInvoke_state]; exact Steps.refl _) | exact Steps.refl _
/-- an array of references of the class C -/
def OvA (Z : State) (h : Heap) (a : Addr) (C : String) : Prop := ∃ cl : Cell, h[a]? = some cl ∧ Ovr Z cl.cls C
section OvA
variable {Z : State} {h h' : Heap} {a b : Addr} {C : String} {sl : Nat} {v : Value} {ws : List Addr}
theorem OvA.ext (F : OvA Z h a C) (E : Ext h h') : OvA Z h' a C := by obtain ⟨cl, q, r⟩ := F; exact ⟨cl, E.2 _ _ q, r⟩
theorem OvA.wr (F : OvA Z h a C) (W : Wr h h' b sl v) : OvA Z h' a C := by obtain ⟨cl, q, r⟩ := F; obtain ⟨d, a1, a2, -⟩ := wr_at W q; exact ⟨d, a1, by rw [a2]; exact r⟩
theorem OvA.keep (F : OvA Z h a C) (K : Keep h h' ws) : OvA Z h' a C := by obtain ⟨cl, q, r⟩ := F; obtain ⟨c', q', e, -⟩ := K.2.2 _ _ q; exact ⟨c', q', by rw [e]; exact r⟩
variable {p : Program} {l : Launch} {e : Env} {R : Room} {s : State} {m : MethodId} {args : Array Value} {below : List Frame} {meth : Method} {c : Code} {T : State} {locs : List Loc} {cells slots : Nat} {j : Int32} {i n : Nat} {rest : List Value} {g : JFrame} {f : Nat → Value}
theorem wrR (X : Stand p l e R s m args below meth c T locs cells slots) (hx : p.tables.exec = Jvm.exec) (hZ : Z.Warmed39 s.vm) (eT : T.heap = h) (F : Ara Z h a (.object C) n f) (O : OvA Z h a C) {y : Addr} (I : Ins Z h y C true) (hj0 : ¬ j < 0) (hj : j.toNatClampNeg = i) (hi : i < n) (hg : g.method = m) (hs : g.stack = .ref y :: .int j :: .ref a :: rest) (hd : decode c.code g.pc = .ok (.aastore, 1)) :
    ∃ T' h', Stand p l e R s m args below meth c T' (locs ++ [⟨a, i⟩]) cells slots ∧ T'.heap = h' ∧ Wr h h' a i (.ref y) ∧ ∀ target, Steps p.tables e below (T'.setTop { g with pc := g.pc + 1, stack := rest }) target → Steps p.tables e below (T.setTop g) target := by
  subst hj
  obtain ⟨cl, A, r1, r2, r3⟩ := F
  obtain ⟨cl', q, O⟩ := O
  cases A.1.symm.trans q
  exact stR X hx hZ eT A (hin_of r1 hj0 rfl hi) rfl (Sto.of A O I) hg hs hd
end OvA

-- plain: linear probing over 16 places
/-- every key is reached from its home over places that are taken -/
def Rch (hm : Int64 → Nat) (kf : Nat → Int64) : Prop := ∀ s, s < 16 → kf s ≠ 0 → ∃ j, j < 16 ∧ s = (hm (kf s) + j) % 16 ∧ ∀ d, d < j → kf ((hm (kf s) + d) % 16) ≠ 0
def Dst (kf : Nat → Int64) : Prop := ∀ s t, s < 16 → t < 16 → kf s ≠ 0 → kf s = kf t → s = t
def Few (kf : Nat → Int64) (m : Nat) : Prop := ∃ L : List Nat, L.length ≤ m ∧ ∀ s, s < 16 → kf s ≠ 0 → s ∈ L
/-- where the look for a key ends -/
def Fnd (hm : Int64 → Nat) (kf : Nat → Int64) (key : Int64) (s : Nat) : Prop := ∃ j, j < 16 ∧ s = (hm key + j) % 16 ∧ (kf s = 0 ∨ kf s = key) ∧ ∀ d, d < j → kf ((hm key + d) % 16) ≠ 0 ∧ kf ((hm key + d) % 16) ≠ key
theorem own_pig : ∀ (n : Nat) (L : List Nat), (∀ s, s < n → s ∈ L) → n ≤ L.length := by
  intro n
  induction n with
  | zero => intro L _; exact Nat.zero_le _
  | succ n ih =>
    intro L h
    have hn : n ∈ L := h n (Nat.lt_succ_self n)
    have := ih (L.erase n) (fun s hs => (List.mem_erase_of_ne (by omega)).mpr (h s (by omega)))
    rw [List.length_erase_of_mem hn] at this
    have := List.length_pos_of_mem hn
    omega
theorem Few.free {kf : Nat → Int64} {m : Nat} (h : Few kf m) (hm : m < 16) : ∃ z, z < 16 ∧ kf z = 0 := by
  obtain ⟨L, h1, h2⟩ := h
  apply Classical.byContradiction
  intro q
  have : 16 ≤ L.length := own_pig 16 L (fun s hs => h2 s hs (fun e => q ⟨s, hs, e⟩))
  omega
theorem own_hit {hm : Int64 → Nat} {kf : Nat → Int64} (hr : Rch hm kf) (hd : Dst kf) {key : Int64} (hk : key ≠ 0) {s t : Nat} (hf : Fnd hm kf key s) (ht : t < 16) (e : kf t = key) : s = t := by
  obtain ⟨j, hj, hs, h1, h2⟩ := hf
  obtain ⟨i, hi, hs', h3⟩ := hr t ht (by rw [e]; exact hk)
  rw [e] at hs' h3
  rcases Nat.lt_trichotomy j i with q | q | q
  · have n0 := h3 j q
    rw [← hs] at n0
    exact hd s t (by omega) ht n0 ((h1.resolve_left n0).trans e.symm)
  · subst q; rw [hs, hs']
  · have := (h2 i q).2
    rw [← hs', e] at this
    exact absurd rfl this
/-- the key is there, or it isn't: by what stands where the look ends -/
theorem own_there {hm : Int64 → Nat} {kf : Nat → Int64} (hr : Rch hm kf) (hd : Dst kf) {key : Int64} (hk : key ≠ 0) {s : Nat} (hf : Fnd hm kf key s) : kf s = key ↔ ∃ t, t < 16 ∧ kf t = key := by
  constructor
  · intro e; obtain ⟨j, hj, hs, -⟩ := hf; exact ⟨s, by omega, e⟩
  · intro ⟨t, ht, e⟩; rw [own_hit hr hd hk hf ht e]; exact e
theorem own_fls {hm : Int64 → Nat} {kf : Nat → Int64} {key : Int64} {s : Nat} (hf : Fnd hm kf key s) : s < 16 := by obtain ⟨j, hj, hs, -⟩ := hf; omega
theorem own_lk {hm : Int64 → Nat} {kf : Nat → Int64} {key : Int64} {s : Nat} (hf : Fnd hm kf key s) : kf s = 0 ∨ kf s = key := by obtain ⟨j, hj, hs, h, -⟩ := hf; exact h
/-- a key placed in the free place where its look ends -/
theorem own_place {hm : Int64 → Nat} {kf : Nat → Int64} {m : Nat} (hr : Rch hm kf) (hd : Dst kf) (hw : Few kf m) {key : Int64} (hk : key ≠ 0) {s : Nat} (hf : Fnd hm kf key s) (hs : kf s = 0) : Rch hm (upd kf s key) ∧ Dst (upd kf s key) ∧ Few (upd kf s key) (m + 1) := by
  have hs16 := own_fls hf
  have nz : ∀ t, kf t ≠ 0 → upd kf s key t ≠ 0 := by
    intro t ht
    by_cases q : t = s
    · subst q; rw [upd_hit]; exact hk
    · rw [upd_miss q]; exact ht
  have no : ∀ t, t < 16 → kf t ≠ key := fun t ht e => by
    have := own_hit hr hd hk hf ht e
    subst this
    exact hk (e.symm.trans hs)
  refine ⟨?_, ?_, ?_⟩
  · intro t ht h0
    by_cases q : t = s
    · subst q
      rw [upd_hit]
      obtain ⟨j, hj, e, -, h2⟩ := hf
      exact ⟨j, hj, e, fun d hd => nz _ (h2 d hd).1⟩
    · rw [upd_miss q] at h0 ⊢
      obtain ⟨j, hj, e, h2⟩ := hr t ht h0
      exact ⟨j, hj, e, fun d hd => nz _ (h2 d hd)⟩
  · intro t u ht hu h0 e
    by_cases q : t = s <;> by_cases r : u = s
    · omega
    · subst q; rw [upd_hit, upd_miss r] at e; exact absurd e.symm (no u hu)
    · subst r; rw [upd_hit, upd_miss q] at e; exact absurd e (no t ht)
    · rw [upd_miss q, upd_miss r] at e; rw [upd_miss q] at h0; exact hd t u ht hu h0 e
  · obtain ⟨L, h1, h2⟩ := hw
    refine ⟨s :: L, by simp; omega, fun t ht h0 => ?_⟩
    by_cases q : t = s
    · subst q; exact List.mem_cons_self
    · rw [upd_miss q] at h0; exact List.mem_cons_of_mem _ (h2 t ht h0)
/-- the state of 'free's loop: the place gap is to be emptied; all that lies between gap and next was looked at -/
def Gap (hm : Int64 → Nat) (kf : Nat → Int64) (gap i : Nat) : Prop :=
  gap < 16 ∧ 0 < i ∧ i ≤ 16 ∧ kf gap ≠ 0 ∧ (∀ s, s < 16 → s ≠ gap → kf s ≠ 0 → ∃ j, j < 16 ∧ s = (hm (kf s) + j) % 16 ∧ ∀ d, d < j → kf ((hm (kf s) + d) % 16) ≠ 0) ∧
  (∀ s t, s < 16 → t < 16 → s ≠ gap → t ≠ gap → kf s ≠ 0 → kf s = kf t → s = t) ∧
  (∀ d, 0 < d → d < i → kf ((gap + d) % 16) ≠ 0 ∧ ∃ j, j < d ∧ (gap + d) % 16 = (hm (kf ((gap + d) % 16)) + j) % 16)
/-- the keys that stand elsewhere than at gap, with their values -/
def Oth (kf vf : Nat → Int64) (gap : Nat) (k v : Int64) : Prop := ∃ t, t < 16 ∧ t ≠ gap ∧ kf t = k ∧ vf t = v
theorem own_skip {hm : Int64 → Nat} {kf : Nat → Int64} {gap i : Nat} (hh : ∀ k, hm k < 16) (h : Gap hm kf gap i) (hi : i < 16) (h0 : kf ((gap + i) % 16) ≠ 0) (hc : (((gap + i) % 16 + 16 - hm (kf ((gap + i) % 16))) % 16) < i) : Gap hm kf gap (i + 1) := by
  obtain ⟨g1, g2, g3, g4, g5, g6, g7⟩ := h
  refine ⟨g1, by omega, by omega, g4, g5, g6, fun d d0 d1 => ?_⟩
  by_cases q : d = i
  · subst q
    have := hh (kf ((gap + d) % 16))
    exact ⟨h0, _, hc, by omega⟩
  · exact g7 d d0 (by omega)
theorem own_move {hm : Int64 → Nat} {kf : Nat → Int64} {gap i : Nat} (hh : ∀ k, hm k < 16) (h : Gap hm kf gap i) (hi : i < 16) (h0 : kf ((gap + i) % 16) ≠ 0) (hc : ¬ (((gap + i) % 16 + 16 - hm (kf ((gap + i) % 16))) % 16) < i) : Gap hm (upd kf gap (kf ((gap + i) % 16))) ((gap + i) % 16) 1 := by
  obtain ⟨g1, g2, g3, g4, g5, g6, g7⟩ := h
  have ne : (gap + i) % 16 ≠ gap := by omega
  have nz : ∀ t, kf t ≠ 0 → upd kf gap (kf ((gap + i) % 16)) t ≠ 0 := by
    intro t ht
    by_cases q : t = gap
    · subst q; rw [upd_hit]; exact h0
    · rw [upd_miss q]; exact ht
  refine ⟨by omega, by omega, by omega, by rw [upd_miss ne]; exact h0, fun s hs sg hz => ?_, fun s t hs ht sg tg hz e => ?_, fun d d0 d1 => absurd d1 (by omega)⟩
  · by_cases q : s = gap
    · subst q
      rw [upd_hit]
      obtain ⟨j, hj, e, h2⟩ := g5 ((s + i) % 16) (by omega) ne h0
      have := hh (kf ((s + i) % 16))
      generalize hm (kf ((s + i) % 16)) = hb at *
      have hij : i ≤ j := by omega
      exact ⟨j - i, by omega, by omega, fun d hd => nz _ (h2 d (by omega))⟩
    · rw [upd_miss q] at hz ⊢
      obtain ⟨j, hj, e, h2⟩ := g5 s hs q hz
      exact ⟨j, hj, e, fun d hd => nz _ (h2 d hd)⟩
  · by_cases q : s = gap <;> by_cases r : t = gap
    · omega
    · subst q; rw [upd_hit, upd_miss r] at e; exact absurd (g6 _ _ (by omega) ht ne r h0 e).symm tg
    · subst r; rw [upd_hit, upd_miss q] at e; rw [upd_miss q] at hz; exact absurd (g6 _ _ hs (by omega) q ne hz e) sg
    · rw [upd_miss q, upd_miss r] at e; rw [upd_miss q] at hz; exact g6 _ _ hs ht q r hz e
theorem own_moveO {kf vf : Nat → Int64} {gap nx : Nat} (hg : gap < 16) (hn : nx < 16) (ne : nx ≠ gap) (k v : Int64) : Oth (upd kf gap (kf nx)) (upd vf gap (vf nx)) nx k v ↔ Oth kf vf gap k v := by
  constructor
  · intro ⟨t, ht, tn, e1, e2⟩
    by_cases q : t = gap
    · subst q; rw [upd_hit] at e1 e2; exact ⟨nx, hn, ne, e1, e2⟩
    · rw [upd_miss q] at e1 e2; exact ⟨t, ht, q, e1, e2⟩
  · intro ⟨t, ht, tn, e1, e2⟩
    by_cases q : t = nx
    · subst q; exact ⟨gap, hg, fun z => ne z.symm, by rw [upd_hit]; exact e1, by rw [upd_hit]; exact e2⟩
    · exact ⟨t, ht, q, by rw [upd_miss tn]; exact e1, by rw [upd_miss tn]; exact e2⟩
theorem own_end {hm : Int64 → Nat} {kf : Nat → Int64} {gap i : Nat} (hh : ∀ k, hm k < 16) (h : Gap hm kf gap i) (hi : i < 16) (h0 : kf ((gap + i) % 16) = 0) : Rch hm (upd kf gap 0) ∧ Dst (upd kf gap 0) := by
  obtain ⟨g1, g2, g3, g4, g5, g6, g7⟩ := h
  refine ⟨fun s hs hz => ?_, fun s t hs ht hz e => ?_⟩
  · have q : s ≠ gap := fun q => by subst q; rw [upd_hit] at hz; exact hz rfl
    rw [upd_miss q] at hz ⊢
    obtain ⟨j, hj, e, h2⟩ := g5 s hs q hz
    refine ⟨j, hj, e, fun d hd => ?_⟩
    have hne : (hm (kf s) + d) % 16 ≠ gap := by
      intro eg
      have hb := hh (kf s)
      -- s = gap + x with 0 < x < 16
      have hx : ∃ x, 0 < x ∧ x < 16 ∧ s = (gap + x) % 16 := ⟨(s + 16 - gap) % 16, by omega, by omega, by omega⟩
      obtain ⟨x, x0, x1, ex⟩ := hx
      have hjd : j - d = x := by omega
      by_cases w : x < i
      · obtain ⟨-, y, y1, y2⟩ := g7 x x0 w
        rw [← ex] at y2
        omega
      · -- the road passes the free place
        by_cases w2 : x = i
        · rw [w2] at ex; rw [← ex] at h0; exact hz h0
        · have := h2 (d + i) (by omega)
          rw [show (hm (kf s) + (d + i)) % 16 = (gap + i) % 16 by omega] at this
          exact this h0
    rw [upd_miss hne]
    exact h2 d hd
  · have q : s ≠ gap := fun q => by subst q; rw [upd_hit] at hz; exact hz rfl
    rw [upd_miss q] at hz e
    by_cases r : t = gap
    · subst r; rw [upd_hit] at e; exact absurd e hz
    · rw [upd_miss r] at e; exact g6 s t hs ht q r hz e
theorem own_start {hm : Int64 → Nat} {kf : Nat → Int64} {gap : Nat} (hr : Rch hm kf) (hd : Dst kf) (hg : gap < 16) (h0 : kf gap ≠ 0) : Gap hm kf gap 1 :=
  ⟨hg, by omega, by omega, h0, fun s hs _ hz => hr s hs hz, fun s t hs ht _ _ hz e => hd s t hs ht hz e, fun d d0 d1 => absurd d1 (by omega)⟩
/-- the table bears the key k with the value v -/
def In (kf vf : Nat → Int64) (k v : Int64) : Prop := ∃ s, s < 16 ∧ kf s = k ∧ vf s = v
/-- a part's own law; m: so many operations at the most have been made -/
def PI (hm : Int64 → Nat) (kf vf : Nat → Int64) (t : Int32) (m : Nat) : Prop := Rch hm kf ∧ Dst kf ∧ Few kf m ∧ (∀ s, s < 16 → kf s = 0 → vf s = 0) ∧ -(m : Int) ≤ t.toInt ∧ t.toInt ≤ m
theorem Few.mono {kf : Nat → Int64} {m m' : Nat} (h : Few kf m) (q : m ≤ m') : Few kf m' := by obtain ⟨L, h1, h2⟩ := h; exact ⟨L, by omega, h2⟩
theorem PI.mono {hm : Int64 → Nat} {kf vf : Nat → Int64} {t : Int32} {m m' : Nat} (h : PI hm kf vf t m) (q : m ≤ m') : PI hm kf vf t m' := ⟨h.1, h.2.1, h.2.2.1.mono q, h.2.2.2.1, by have := h.2.2.2.2.1; omega, by have := h.2.2.2.2.2; omega⟩
theorem PI.free {hm : Int64 → Nat} {kf vf : Nat → Int64} {t : Int32} {m : Nat} (h : PI hm kf vf t m) (q : m < 16) : ∃ z, z < 16 ∧ kf z = 0 := h.2.2.1.free q
/-- an entry of the map: the one value of a key -/
theorem In.one {kf vf : Nat → Int64} (hd : Dst kf) {k v : Int64} (hk : k ≠ 0) {s : Nat} (hs : s < 16) (e : kf s = k) : In kf vf k v ↔ vf s = v := by
  constructor
  · intro ⟨t, ht, e1, e2⟩
    rw [hd s t hs ht (by rw [e]; exact hk) (e.trans e1.symm)]; exact e2
  · intro h; exact ⟨s, hs, e, h⟩
theorem own_addNew {hm : Int64 → Nat} {kf vf : Nat → Int64} {t : Int32} {m : Nat} (h : PI hm kf vf t m) (hm16 : m < 15) {key val : Int64} (hk : key ≠ 0) {s : Nat} (hf : Fnd hm kf key s) (h0 : kf s = 0) (t1 : (t + 1).toInt = t.toInt + 1) :
    PI hm (upd kf s key) (upd vf s val) (t + 1) (m + 1) ∧ (∀ v, ¬ In kf vf key v) ∧ ∀ k v, k ≠ 0 → (In (upd kf s key) (upd vf s val) k v ↔ if k = key then v = val else In kf vf k v) := by
  obtain ⟨a1, a2, a3, a4, a5, a6⟩ := h
  have hs := own_fls hf
  obtain ⟨b1, b2, b3⟩ := own_place a1 a2 a3 hk hf h0
  have no : ∀ u, u < 16 → kf u ≠ key := fun u hu e => hk ((own_there a1 a2 hk hf).mpr ⟨u, hu, e⟩ ▸ h0)
  refine ⟨⟨b1, b2, b3, fun u hu e => ?_, by omega, by omega⟩, fun v ⟨u, hu, e, _⟩ => no u hu e, fun k v hk0 => ?_⟩
  · by_cases q : u = s
    · subst q; rw [upd_hit] at e; exact absurd e hk
    · rw [upd_miss q] at e ⊢; exact a4 u hu e
  · by_cases q : k = key
    · subst q
      rw [if_pos rfl, In.one b2 hk hs (upd_hit _ _ _), upd_hit]
      exact eq_comm
    · rw [if_neg q]
      constructor
      · intro ⟨u, hu, e1, e2⟩
        by_cases r : u = s
        · subst r; rw [upd_hit] at e1; exact absurd e1.symm q
        · rw [upd_miss r] at e1 e2; exact ⟨u, hu, e1, e2⟩
      · intro ⟨u, hu, e1, e2⟩
        have r : u ≠ s := fun r => by subst r; rw [h0] at e1; exact hk0 e1.symm
        exact ⟨u, hu, by rw [upd_miss r]; exact e1, by rw [upd_miss r]; exact e2⟩
theorem own_setOld {hm : Int64 → Nat} {kf vf : Nat → Int64} {t : Int32} {m : Nat} (h : PI hm kf vf t m) {key val : Int64} (hk : key ≠ 0) {s : Nat} (hs : s < 16) (h0 : kf s = key) :
    PI hm kf (upd vf s val) t m ∧ ∀ k v, k ≠ 0 → (In kf (upd vf s val) k v ↔ if k = key then v = val else In kf vf k v) := by
  obtain ⟨a1, a2, a3, a4, a5, a6⟩ := h
  refine ⟨⟨a1, a2, a3, fun u hu e => ?_, a5, a6⟩, fun k v hk0 => ?_⟩
  · have r : u ≠ s := fun r => by subst r; exact hk (h0.symm.trans e)
    rw [upd_miss r]; exact a4 u hu e
  · by_cases q : k = key
    · subst q; rw [if_pos rfl, In.one a2 hk hs h0, upd_hit]; exact eq_comm
    · rw [if_neg q]
      constructor
      · intro ⟨u, hu, e1, e2⟩
        have r : u ≠ s := fun r => by subst r; exact q (e1.symm.trans h0)
        rw [upd_miss r] at e2; exact ⟨u, hu, e1, e2⟩
      · intro ⟨u, hu, e1, e2⟩
        have r : u ≠ s := fun r => by subst r; exact q (e1.symm.trans h0)
        exact ⟨u, hu, e1, by rw [upd_miss r]; exact e2⟩
/-- behind 'free': what is left is all but the key that stood at the first gap -/
theorem own_freed {hm : Int64 → Nat} (hh : ∀ k, hm k < 16) {kf vf kg vg : Nat → Int64} {t t' : Int32} {m gap i s : Nat} (h : PI hm kf vf t m) {key : Int64} (hk : key ≠ 0) (hs : s < 16) (h0 : kf s = key)
    (hg : Gap hm kg gap i) (hi : i < 16) (hz : kg ((gap + i) % 16) = 0) (ho : ∀ k v, Oth kg vg gap k v ↔ Oth kf vf s k v) (hfw : ∀ u, u < 16 → kg u ≠ 0 → kf u ≠ 0) (hv : ∀ u, u < 16 → u ≠ gap → kg u = 0 → vg u = 0) (ht : t'.toInt = t.toInt - 1) :
    PI hm (upd kg gap 0) (upd vg gap 0) t' (m + 1) ∧ ∀ k v, k ≠ 0 → (In (upd kg gap 0) (upd vg gap 0) k v ↔ k ≠ key ∧ In kf vf k v) := by
  obtain ⟨a1, a2, a3, a4, a5, a6⟩ := h
  obtain ⟨b1, b2⟩ := own_end hh hg hi hz
  refine ⟨⟨b1, b2, ?_, fun u hu e => ?_, by omega, by omega⟩, fun k v hk0 => ?_⟩
  · obtain ⟨L, c1, c2⟩ := a3
    refine ⟨L, by omega, fun u hu e => ?_⟩
    by_cases q : u = gap
    · subst q; rw [upd_hit] at e; exact absurd rfl e
    · rw [upd_miss q] at e; exact c2 u hu (hfw u hu e)
  · by_cases q : u = gap
    · subst q; rw [upd_hit]
    · rw [upd_miss q] at e ⊢; exact hv u hu q e
  · have e1 : In (upd kg gap 0) (upd vg gap 0) k v ↔ Oth kg vg gap k v := by
      constructor
      · intro ⟨u, hu, f1, f2⟩
        have q : u ≠ gap := fun q => by subst q; rw [upd_hit] at f1; exact hk0 f1.symm
        rw [upd_miss q] at f1 f2; exact ⟨u, hu, q, f1, f2⟩
      · intro ⟨u, hu, q, f1, f2⟩
        exact ⟨u, hu, by rw [upd_miss q]; exact f1, by rw [upd_miss q]; exact f2⟩
    rw [e1, ho]
    constructor
    · intro ⟨u, hu, q, f1, f2⟩
      exact ⟨fun r => q (a2 u s hu hs (by rw [f1, r]; exact hk) (f1.trans (r.trans h0.symm))), u, hu, f1, f2⟩
    · intro ⟨r, u, hu, f1, f2⟩
      exact ⟨u, hu, fun q => r (by rw [← f1, q, h0]), f1, f2⟩

/-- the place where a key is looked for first -/
def hmI (k : Int64) : Int32 := (((((k * (-7046029254386353131 : Int64)) <<< ((6 : Int32) &&& 0x3f).toInt64).toUInt64 >>> ((60 : Int32) &&& 0x3f).toInt64.toUInt64).toInt64).toInt32)
def hm (k : Int64) : Nat := (hmI k).toNatClampNeg
theorem hm_spec (k : Int64) : ¬ hmI k < 0 ∧ (hmI k).toInt < 16 := by
  unfold hmI
  generalize ((k * (-7046029254386353131 : Int64)) <<< ((6 : Int32) &&& 0x3f).toInt64) = x
  have h1 := c_lushr x 60 60 (by decide) (by decide)
  have h2 : 0 ≤ x.toInt % 18446744073709551616 := Int.emod_nonneg _ (by decide)
  have h3 : x.toInt % 18446744073709551616 < 18446744073709551616 := Int.emod_lt_of_pos _ (by decide)
  generalize ((x.toUInt64 >>> ((60 : Int32) &&& 0x3f).toInt64.toUInt64).toInt64) = w at *
  have h4 := c_l2i w
  have h5 := w.toInt32.toInt_lt; have h6 := w.toInt32.le_toInt
  rw [Int32.lt_iff_toInt_lt]
  simp only [Int32.reduceToInt]
  have e : ((2 ^ 60 : Nat) : Int) = 1152921504606846976 := by decide
  rw [e] at h1
  omega
theorem hm_lt (k : Int64) : hm k < 16 := by
  have h := hm_spec k
  have := nat_of h.1
  unfold hm; omega
/-- a place of the sixteen, one further -/
theorem own_nx {s : Int32} (h0 : ¬ s < 0) (h : s.toNatClampNeg < 16) : ¬ ((s + (1 : Int32)) &&& (15 : Int32)) < 0 ∧ ((s + (1 : Int32)) &&& (15 : Int32)).toNatClampNeg = (s.toNatClampNeg + 1) % 16 := by
  have e := nat_of h0
  have a1 : (s + 1).toInt = s.toInt + 1 := by have := c_iadd s 1; have := (s + 1).toInt_lt; have := (s + 1).le_toInt; simp only [Int32.reduceToInt] at *; omega
  have a2 := c_mask (s + 1) 15 4 (by decide) (by decide)
  have a3 : ((2 ^ 4 : Nat) : Int) = 16 := by decide
  rw [a3] at a2
  have a4 : ¬ ((s + (1 : Int32)) &&& (15 : Int32)) < 0 := by rw [Int32.lt_iff_toInt_lt]; simp only [Int32.reduceToInt]; omega
  refine ⟨a4, ?_⟩
  have := nat_of a4
  omega
theorem ef_rm4 (m : MethodId)  : entryFrame m #[(.int (16 : Int32))] 2 = mkF m 0 #[.val (.int (16 : Int32)), .unset] [] := by first | (simp [entryFrame, mkF, argsToLocals, Value.category]; done) | rfl
theorem pn_0 : plainName "java/lang/Integer" = true := by first | (simp [plainName, overriddenIn]; done) | decide +kernel
def Q_rm4 (Z : State)   (h0 : Heap) (n0 : Nat) (v : Option Value) (h : Heap) (L : List Loc) : Prop := v = some (.int (4 : Int32)) ∧ Fr n0 L ∧ h = h0
theorem d4_0 : decode jdk_33_method_48_code 0 = .ok (.iload_n 0, 1) := by decide +kernel
theorem d4_1 : decode jdk_33_method_48_code 1 = .ok (.iconst (-1), 1) := by decide +kernel
theorem d4_2 : decode jdk_33_method_48_code 2 = .ok (.ixor, 1) := by decide +kernel
theorem d4_3 : decode jdk_33_method_48_code 3 = .ok (.iload_n 0, 1) := by decide +kernel
theorem d4_4 : decode jdk_33_method_48_code 4 = .ok (.iconst 1, 1) := by decide +kernel
theorem d4_5 : decode jdk_33_method_48_code 5 = .ok (.isub, 1) := by decide +kernel
theorem d4_6 : decode jdk_33_method_48_code 6 = .ok (.iand, 1) := by decide +kernel
theorem d4_7 : decode jdk_33_method_48_code 7 = .ok (.istore_n 0, 1) := by decide +kernel
theorem d4_8 : decode jdk_33_method_48_code 8 = .ok (.iload_n 0, 1) := by decide +kernel
theorem d4_9 : decode jdk_33_method_48_code 9 = .ok (.ifCond .gt 8, 3) := by decide +kernel
theorem d4_17 : decode jdk_33_method_48_code 17 = .ok (.iconst 1, 1) := by decide +kernel
theorem d4_18 : decode jdk_33_method_48_code 18 = .ok (.istore_n 1, 1) := by decide +kernel
theorem d4_19 : decode jdk_33_method_48_code 19 = .ok (.iload_n 0, 1) := by decide +kernel
theorem d4_20 : decode jdk_33_method_48_code 20 = .ok (.ldc_w 264, 3) := by decide +kernel
theorem d4_23 : decode jdk_33_method_48_code 23 = .ok (.if_icmp .le 11, 3) := by decide +kernel
theorem d4_34 : decode jdk_33_method_48_code 34 = .ok (.iload_n 0, 1) := by decide +kernel
theorem d4_35 : decode jdk_33_method_48_code 35 = .ok (.sipush 256, 3) := by decide +kernel
theorem d4_38 : decode jdk_33_method_48_code 38 = .ok (.if_icmp .le 11, 3) := by decide +kernel
theorem d4_49 : decode jdk_33_method_48_code 49 = .ok (.iload_n 0, 1) := by decide +kernel
theorem d4_50 : decode jdk_33_method_48_code 50 = .ok (.bipush 16, 2) := by decide +kernel
theorem d4_52 : decode jdk_33_method_48_code 52 = .ok (.if_icmp .le 10, 3) := by decide +kernel
theorem d4_62 : decode jdk_33_method_48_code 62 = .ok (.iload_n 0, 1) := by decide +kernel
theorem d4_63 : decode jdk_33_method_48_code 63 = .ok (.iconst 4, 1) := by decide +kernel
theorem d4_64 : decode jdk_33_method_48_code 64 = .ok (.if_icmp .le 10, 3) := by decide +kernel
theorem d4_67 : decode jdk_33_method_48_code 67 = .ok (.iinc 1 2, 3) := by decide +kernel
theorem d4_70 : decode jdk_33_method_48_code 70 = .ok (.iload_n 0, 1) := by decide +kernel
theorem d4_71 : decode jdk_33_method_48_code 71 = .ok (.iconst 2, 1) := by decide +kernel
theorem d4_72 : decode jdk_33_method_48_code 72 = .ok (.iushr, 1) := by decide +kernel
theorem d4_73 : decode jdk_33_method_48_code 73 = .ok (.istore_n 0, 1) := by decide +kernel
theorem d4_74 : decode jdk_33_method_48_code 74 = .ok (.iload_n 1, 1) := by decide +kernel
theorem d4_75 : decode jdk_33_method_48_code 75 = .ok (.iload_n 0, 1) := by decide +kernel
theorem d4_76 : decode jdk_33_method_48_code 76 = .ok (.iconst 1, 1) := by decide +kernel
theorem d4_77 : decode jdk_33_method_48_code 77 = .ok (.iushr, 1) := by decide +kernel
theorem d4_78 : decode jdk_33_method_48_code 78 = .ok (.iadd, 1) := by decide +kernel
theorem d4_79 : decode jdk_33_method_48_code 79 = .ok (.ireturn, 1) := by decide +kernel
set_option maxRecDepth 65536 in
set_option maxHeartbeats 40000000 in
theorem rm4 (l : Launch) (Z : State) (a0 : Array Value) (hw : ∀ d ∈ tables_1, d.before a0 Z = true) (ws : List Jvm.Cond)   (h0 : Heap) (n0 : Nat) (Z0 : n0 ≤ h0.size)  :
    MetFree l (⟨"java/lang/Integer", "numberOfTrailingZeros", "(I)I"⟩ : MethodName) (head1 (Jvm.Cond.code (⟨"java/lang/Integer", "numberOfTrailingZeros", "(I)I"⟩ : MethodName) jdk_33_method_48_code 2 (some .int) :: ws) ({ frames := 0, cells := 0, slots := 0, locals := 0 } : Room)) (fun a U => a = #[(.int (16 : Int32))] ∧ Z.Warmed39 U.vm ∧ U.heap = h0) (fun _ _ _ _ _ => True) (fun _ U o U' => ∃ v L, o = .returned v ∧ (Q_rm4 Z  h0 n0) v U'.heap L ∧ FrameEnd U o U' L ({ frames := 0, cells := 0, slots := 0, locals := 0 } : Room).cells ({ frames := 0, cells := 0, slots := 0, locals := 0 } : Room).slots) := by
  refine MetFree.of_bodySF (plainFor_of_name pn_0) hisR ?_
  intro p e s m args below meth c s₁ Bd hml0 hP hK
  obtain ⟨rfl, hZ, hh⟩ := hP
  have hx := Bd.exec
  have hby := Bd.bytes
  have hml : c.maxLocals = 2 := hml0
  have hown : s.vm.findClass "java/lang/Integer" = some m.cls := findClass_of_methodNamed Bd.named
  have hnm := (name_of_methodNamed Bd.named Bd.method).1
  have X0 : Stand p l e ({ frames := 0, cells := 0, slots := 0, locals := 0 } : Room) s m #[(.int (16 : Int32))] below meth c s₁ [] 0 0 := Stand.of_body Bd
  have e0 : s₁.heap = h0 := by rw [← hh, Bd.state]; rfl
  have N0 := Fr.nil n0
  show OFin p e below (ORet (Q_rm4 Z  h0 n0) s ({ frames := 0, cells := 0, slots := 0, locals := 0 } : Room).cells ({ frames := 0, cells := 0, slots := 0, locals := 0 } : Room).slots) (s₁.setTop (entryFrame m #[(.int (16 : Int32))] 2))
  refine OFin.go (fun t k => castTop (ef_rm4 m ) k) ?_
  show OFin p e below (ORet (Q_rm4 Z  h0 n0) s ({ frames := 0, cells := 0, slots := 0, locals := 0 } : Room).cells ({ frames := 0, cells := 0, slots := 0, locals := 0 } : Room).slots) (s₁.setTop (mkF m 0 #[.val (.int (16 : Int32)), .unset] []))
  have S1 : ∀ t, Steps p.tables e below (s₁.setTop (mkF m 9 #[.val (.int (15 : Int32)), .unset] [(.int (15 : Int32))])) t → Steps p.tables e below (s₁.setTop (mkF m 0 #[.val (.int (16 : Int32)), .unset] [])) t := by
    intro t k
    show Steps p.tables e below (s₁.setTop (mkF m 0 #[.val (.int (16 : Int32)), .unset] [])) t
    refine XS.iloadN X0.here hx rfl (hb hby d4_0) rfl ?_
    show Steps p.tables e below (s₁.setTop (mkF m 1 #[.val (.int (16 : Int32)), .unset] [(.int (16 : Int32))])) t
    refine XS.iconst X0.here hx rfl (hb hby d4_1) ?_
    show Steps p.tables e below (s₁.setTop (mkF m 2 #[.val (.int (16 : Int32)), .unset] [(.int (-1 : Int32)), (.int (16 : Int32))])) t
    refine XS.ixor X0.here hx rfl (hb hby d4_2) rfl ?_
    show Steps p.tables e below (s₁.setTop (mkF m 3 #[.val (.int (16 : Int32)), .unset] [(.int (-17 : Int32))])) t
    refine XS.iloadN X0.here hx rfl (hb hby d4_3) rfl ?_
    show Steps p.tables e below (s₁.setTop (mkF m 4 #[.val (.int (16 : Int32)), .unset] [(.int (16 : Int32)), (.int (-17 : Int32))])) t
    refine XS.iconst X0.here hx rfl (hb hby d4_4) ?_
    show Steps p.tables e below (s₁.setTop (mkF m 5 #[.val (.int (16 : Int32)), .unset] [(.int (1 : Int32)), (.int (16 : Int32)), (.int (-17 : Int32))])) t
    refine XS.isub X0.here hx rfl (hb hby d4_5) rfl ?_
    show Steps p.tables e below (s₁.setTop (mkF m 6 #[.val (.int (16 : Int32)), .unset] [(.int (15 : Int32)), (.int (-17 : Int32))])) t
    refine XS.iand X0.here hx rfl (hb hby d4_6) rfl ?_
    show Steps p.tables e below (s₁.setTop (mkF m 7 #[.val (.int (16 : Int32)), .unset] [(.int (15 : Int32))])) t
    refine XS.istoreN X0.here hx rfl (hb hby d4_7) rfl (l' := #[.val (.int (15 : Int32)), .unset]) rfl ?_
    show Steps p.tables e below (s₁.setTop (mkF m 8 #[.val (.int (15 : Int32)), .unset] [])) t
    refine XS.iloadN X0.here hx rfl (hb hby d4_8) rfl ?_
    exact k
  refine OFin.go S1 ?_
  have S2 : ∀ t, Steps p.tables e below (s₁.setTop (mkF m 17 #[.val (.int (15 : Int32)), .unset] [])) t → Steps p.tables e below (s₁.setTop (mkF m 9 #[.val (.int (15 : Int32)), .unset] [(.int (15 : Int32))])) t := by
    intro t k
    show Steps p.tables e below (s₁.setTop (mkF m 9 #[.val (.int (15 : Int32)), .unset] [(.int (15 : Int32))])) t
    refine XS.ifYes X0.here hx rfl (pc0 := 9) (pc' := 17) rfl (hb hby d4_9) rfl ((if0 _ _).trans (tlt (by decide)).2.2.1) (by decide) (by decide) ?_
    exact k
  refine OFin.go S2 ?_
  have S3 : ∀ t, Steps p.tables e below (s₁.setTop (mkF m 23 #[.val (.int (15 : Int32)), .val (.int (1 : Int32))] [(.int (65536 : Int32)), (.int (15 : Int32))])) t → Steps p.tables e below (s₁.setTop (mkF m 17 #[.val (.int (15 : Int32)), .unset] [])) t := by
    intro t k
    show Steps p.tables e below (s₁.setTop (mkF m 17 #[.val (.int (15 : Int32)), .unset] [])) t
    refine XS.iconst X0.here hx rfl (hb hby d4_17) ?_
    show Steps p.tables e below (s₁.setTop (mkF m 18 #[.val (.int (15 : Int32)), .unset] [(.int (1 : Int32))])) t
    refine XS.istoreN X0.here hx rfl (hb hby d4_18) rfl (l' := #[.val (.int (15 : Int32)), .val (.int (1 : Int32))]) rfl ?_
    show Steps p.tables e below (s₁.setTop (mkF m 19 #[.val (.int (15 : Int32)), .val (.int (1 : Int32))] [])) t
    refine XS.iloadN X0.here hx rfl (hb hby d4_19) rfl ?_
    show Steps p.tables e below (s₁.setTop (mkF m 20 #[.val (.int (15 : Int32)), .val (.int (1 : Int32))] [(.int (15 : Int32))])) t
    refine X0.ldcwInt hx hown (mvT hZ (hw _ (List.mem_of_getElem? (i := 30) rfl))) (g := (mkF m 20 #[.val (.int (15 : Int32)), .val (.int (1 : Int32))] [(.int (15 : Int32))])) rfl (hb hby d4_20) _ ?_
    exact k
  refine OFin.go S3 ?_
  have S4 : ∀ t, Steps p.tables e below (s₁.setTop (mkF m 34 #[.val (.int (15 : Int32)), .val (.int (1 : Int32))] [])) t → Steps p.tables e below (s₁.setTop (mkF m 23 #[.val (.int (15 : Int32)), .val (.int (1 : Int32))] [(.int (65536 : Int32)), (.int (15 : Int32))])) t := by
    intro t k
    show Steps p.tables e below (s₁.setTop (mkF m 23 #[.val (.int (15 : Int32)), .val (.int (1 : Int32))] [(.int (65536 : Int32)), (.int (15 : Int32))])) t
    refine XS.icmpYes X0.here hx rfl (pc0 := 23) (pc' := 34) rfl (hb hby d4_23) rfl (flt (by decide)).2.2.2 (by decide) (by decide) ?_
    exact k
  refine OFin.go S4 ?_
  have S5 : ∀ t, Steps p.tables e below (s₁.setTop (mkF m 38 #[.val (.int (15 : Int32)), .val (.int (1 : Int32))] [(.int (256 : Int32)), (.int (15 : Int32))])) t → Steps p.tables e below (s₁.setTop (mkF m 34 #[.val (.int (15 : Int32)), .val (.int (1 : Int32))] [])) t := by
    intro t k
    show Steps p.tables e below (s₁.setTop (mkF m 34 #[.val (.int (15 : Int32)), .val (.int (1 : Int32))] [])) t
    refine XS.iloadN X0.here hx rfl (hb hby d4_34) rfl ?_
    show Steps p.tables e below (s₁.setTop (mkF m 35 #[.val (.int (15 : Int32)), .val (.int (1 : Int32))] [(.int (15 : Int32))])) t
    refine XS.sipush X0.here hx rfl (hb hby d4_35) ?_
    exact k
  refine OFin.go S5 ?_
  have S6 : ∀ t, Steps p.tables e below (s₁.setTop (mkF m 49 #[.val (.int (15 : Int32)), .val (.int (1 : Int32))] [])) t → Steps p.tables e below (s₁.setTop (mkF m 38 #[.val (.int (15 : Int32)), .val (.int (1 : Int32))] [(.int (256 : Int32)), (.int (15 : Int32))])) t := by
    intro t k
    show Steps p.tables e below (s₁.setTop (mkF m 38 #[.val (.int (15 : Int32)), .val (.int (1 : Int32))] [(.int (256 : Int32)), (.int (15 : Int32))])) t
    refine XS.icmpYes X0.here hx rfl (pc0 := 38) (pc' := 49) rfl (hb hby d4_38) rfl (flt (by decide)).2.2.2 (by decide) (by decide) ?_
    exact k
  refine OFin.go S6 ?_
  have S7 : ∀ t, Steps p.tables e below (s₁.setTop (mkF m 52 #[.val (.int (15 : Int32)), .val (.int (1 : Int32))] [(.int (16 : Int32)), (.int (15 : Int32))])) t → Steps p.tables e below (s₁.setTop (mkF m 49 #[.val (.int (15 : Int32)), .val (.int (1 : Int32))] [])) t := by
    intro t k
    show Steps p.tables e below (s₁.setTop (mkF m 49 #[.val (.int (15 : Int32)), .val (.int (1 : Int32))] [])) t
    refine XS.iloadN X0.here hx rfl (hb hby d4_49) rfl ?_
    show Steps p.tables e below (s₁.setTop (mkF m 50 #[.val (.int (15 : Int32)), .val (.int (1 : Int32))] [(.int (15 : Int32))])) t
    refine XS.bipush X0.here hx rfl (hb hby d4_50) ?_
    exact k
  refine OFin.go S7 ?_
  have S8 : ∀ t, Steps p.tables e below (s₁.setTop (mkF m 62 #[.val (.int (15 : Int32)), .val (.int (1 : Int32))] [])) t → Steps p.tables e below (s₁.setTop (mkF m 52 #[.val (.int (15 : Int32)), .val (.int (1 : Int32))] [(.int (16 : Int32)), (.int (15 : Int32))])) t := by
    intro t k
    show Steps p.tables e below (s₁.setTop (mkF m 52 #[.val (.int (15 : Int32)), .val (.int (1 : Int32))] [(.int (16 : Int32)), (.int (15 : Int32))])) t
    refine XS.icmpYes X0.here hx rfl (pc0 := 52) (pc' := 62) rfl (hb hby d4_52) rfl (flt (by decide)).2.2.2 (by decide) (by decide) ?_
    exact k
  refine OFin.go S8 ?_
  have S9 : ∀ t, Steps p.tables e below (s₁.setTop (mkF m 64 #[.val (.int (15 : Int32)), .val (.int (1 : Int32))] [(.int (4 : Int32)), (.int (15 : Int32))])) t → Steps p.tables e below (s₁.setTop (mkF m 62 #[.val (.int (15 : Int32)), .val (.int (1 : Int32))] [])) t := by
    intro t k
    show Steps p.tables e below (s₁.setTop (mkF m 62 #[.val (.int (15 : Int32)), .val (.int (1 : Int32))] [])) t
    refine XS.iloadN X0.here hx rfl (hb hby d4_62) rfl ?_
    show Steps p.tables e below (s₁.setTop (mkF m 63 #[.val (.int (15 : Int32)), .val (.int (1 : Int32))] [(.int (15 : Int32))])) t
    refine XS.iconst X0.here hx rfl (hb hby d4_63) ?_
    exact k
  refine OFin.go S9 ?_
  have S10 : ∀ t, Steps p.tables e below (s₁.setTop (mkF m 67 #[.val (.int (15 : Int32)), .val (.int (1 : Int32))] [])) t → Steps p.tables e below (s₁.setTop (mkF m 64 #[.val (.int (15 : Int32)), .val (.int (1 : Int32))] [(.int (4 : Int32)), (.int (15 : Int32))])) t := by
    intro t k
    show Steps p.tables e below (s₁.setTop (mkF m 64 #[.val (.int (15 : Int32)), .val (.int (1 : Int32))] [(.int (4 : Int32)), (.int (15 : Int32))])) t
    refine XS.icmpNo X0.here hx rfl (hb hby d4_64) rfl (tlt (by decide)).2.2.2 ?_
    exact k
  refine OFin.go S10 ?_
  have S11 : ∀ t, Steps p.tables e below (s₁.setTop (mkF m 79 #[.val (.int (3 : Int32)), .val (.int (3 : Int32))] [(.int (4 : Int32))])) t → Steps p.tables e below (s₁.setTop (mkF m 67 #[.val (.int (15 : Int32)), .val (.int (1 : Int32))] [])) t := by
    intro t k
    show Steps p.tables e below (s₁.setTop (mkF m 67 #[.val (.int (15 : Int32)), .val (.int (1 : Int32))] [])) t
    refine XS.iinc X0.here hx rfl (hb hby d4_67) rfl (l' := #[.val (.int (15 : Int32)), .val (.int (3 : Int32))]) rfl ?_
    show Steps p.tables e below (s₁.setTop (mkF m 70 #[.val (.int (15 : Int32)), .val (.int (3 : Int32))] [])) t
    refine XS.iloadN X0.here hx rfl (hb hby d4_70) rfl ?_
    show Steps p.tables e below (s₁.setTop (mkF m 71 #[.val (.int (15 : Int32)), .val (.int (3 : Int32))] [(.int (15 : Int32))])) t
    refine XS.iconst X0.here hx rfl (hb hby d4_71) ?_
    show Steps p.tables e below (s₁.setTop (mkF m 72 #[.val (.int (15 : Int32)), .val (.int (3 : Int32))] [(.int (2 : Int32)), (.int (15 : Int32))])) t
    refine XS.iushr X0.here hx rfl (hb hby d4_72) rfl ?_
    show Steps p.tables e below (s₁.setTop (mkF m 73 #[.val (.int (15 : Int32)), .val (.int (3 : Int32))] [(.int (3 : Int32))])) t
    refine XS.istoreN X0.here hx rfl (hb hby d4_73) rfl (l' := #[.val (.int (3 : Int32)), .val (.int (3 : Int32))]) rfl ?_
    show Steps p.tables e below (s₁.setTop (mkF m 74 #[.val (.int (3 : Int32)), .val (.int (3 : Int32))] [])) t
    refine XS.iloadN X0.here hx rfl (hb hby d4_74) rfl ?_
    show Steps p.tables e below (s₁.setTop (mkF m 75 #[.val (.int (3 : Int32)), .val (.int (3 : Int32))] [(.int (3 : Int32))])) t
    refine XS.iloadN X0.here hx rfl (hb hby d4_75) rfl ?_
    show Steps p.tables e below (s₁.setTop (mkF m 76 #[.val (.int (3 : Int32)), .val (.int (3 : Int32))] [(.int (3 : Int32)), (.int (3 : Int32))])) t
    refine XS.iconst X0.here hx rfl (hb hby d4_76) ?_
    show Steps p.tables e below (s₁.setTop (mkF m 77 #[.val (.int (3 : Int32)), .val (.int (3 : Int32))] [(.int (1 : Int32)), (.int (3 : Int32)), (.int (3 : Int32))])) t
    refine XS.iushr X0.here hx rfl (hb hby d4_77) rfl ?_
    show Steps p.tables e below (s₁.setTop (mkF m 78 #[.val (.int (3 : Int32)), .val (.int (3 : Int32))] [(.int (1 : Int32)), (.int (3 : Int32))])) t
    refine XS.iadd X0.here hx rfl (hb hby d4_78) rfl ?_
    exact k
  refine OFin.go S11 ?_
  exact finI X0 hx Bd.notSynchronized Bd.returns (hb hby d4_79) (by decide) (by decide) (⟨rfl, N0, e0⟩)
theorem ef_rm3 (m : MethodId) (o0 : Addr) : entryFrame m #[(.ref o0)] 1 = mkF m 0 #[.val (.ref o0)] [] := by first | (simp [entryFrame, mkF, argsToLocals, Value.category]; done) | rfl
theorem pn_1 : plainName "com/example/clockwrap/clockwrap/store/LongTable$Part" = true := by first | (simp [plainName, overriddenIn]; done) | decide +kernel
def Q_rm3 (Z : State) (o0 : Addr)  (h0 : Heap) (n0 : Nat) (v : Option Value) (h : Heap) (L : List Loc) : Prop := ∃ ka, v = none ∧ Fr n0 L ∧ Keep h0 h [o0] ∧ h0.size ≤ ka ∧ Fld Z h o0 "com/example/clockwrap/clockwrap/store/LongTable$Part" "keys" "[J" (.ref ka) ∧ Fld Z h o0 "com/example/clockwrap/clockwrap/store/LongTable$Part" "shift" "I" (.int (60 : Int32)) ∧ Fld Z h o0 "com/example/clockwrap/clockwrap/store/LongTable$Part" "values" "[J" .null ∧ Fld Z h o0 "com/example/clockwrap/clockwrap/store/LongTable$Part" "taken" "I" (.int (0 : Int32)) ∧ Ara Z h ka .long 16 (fun _ => .long (0 : Int64))
theorem d3_0 : decode prog_33_method_1_code 0 = .ok (.aload_n 0, 1) := by decide +kernel
theorem d3_1 : decode prog_33_method_1_code 1 = .ok (.invokespecial 3, 3) := by decide +kernel
theorem d3_4 : decode prog_33_method_1_code 4 = .ok (.aload_n 0, 1) := by decide +kernel
theorem d3_5 : decode prog_33_method_1_code 5 = .ok (.bipush 16, 2) := by decide +kernel
theorem d3_7 : decode prog_33_method_1_code 7 = .ok (.newarray .long, 2) := by decide +kernel
theorem d3_9 : decode prog_33_method_1_code 9 = .ok (.putfield 11, 3) := by decide +kernel
theorem d3_12 : decode prog_33_method_1_code 12 = .ok (.aload_n 0, 1) := by decide +kernel
theorem d3_13 : decode prog_33_method_1_code 13 = .ok (.bipush 64, 2) := by decide +kernel
theorem d3_15 : decode prog_33_method_1_code 15 = .ok (.bipush 16, 2) := by decide +kernel
theorem pd_0 : parseMethodDescriptor "(I)I" = some ⟨[.int], some .int⟩ := by decide +kernel
theorem d3_17 : decode prog_33_method_1_code 17 = .ok (.invokestatic 17, 3) := by decide +kernel
theorem d3_20 : decode prog_33_method_1_code 20 = .ok (.isub, 1) := by decide +kernel
theorem d3_21 : decode prog_33_method_1_code 21 = .ok (.putfield 23, 3) := by decide +kernel
theorem d3_24 : decode prog_33_method_1_code 24 = .ok (.return_, 1) := by decide +kernel
set_option maxRecDepth 65536 in
set_option maxHeartbeats 40000000 in
theorem rm3 (l : Launch) (Z : State) (a0 : Array Value) (hw : ∀ d ∈ tables_1, d.before a0 Z = true) (ws : List Jvm.Cond) (o0 : Addr)  (h0 : Heap) (n0 : Nat) (Z0 : n0 ≤ h0.size) (ge0 : n0 ≤ o0) (E0 : Exa Z h0 o0 "com/example/clockwrap/clockwrap/store/LongTable$Part") (F_keys : Fld Z h0 o0 "com/example/clockwrap/clockwrap/store/LongTable$Part" "keys" "[J" .null) (F_shift : Fld Z h0 o0 "com/example/clockwrap/clockwrap/store/LongTable$Part" "shift" "I" (.int (0 : Int32))) (F_values : Fld Z h0 o0 "com/example/clockwrap/clockwrap/store/LongTable$Part" "values" "[J" .null) (F_taken : Fld Z h0 o0 "com/example/clockwrap/clockwrap/store/LongTable$Part" "taken" "I" (.int (0 : Int32))) :
    MetFree l (⟨"com/example/clockwrap/clockwrap/store/LongTable$Part", "<init>", "()V"⟩ : MethodName) (head1 (Jvm.Cond.code (⟨"com/example/clockwrap/clockwrap/store/LongTable$Part", "<init>", "()V"⟩ : MethodName) prog_33_method_1_code 1 none :: ws) ({ frames := 1, cells := 1, slots := 16, locals := 20 } : Room)) (fun a U => a = #[(.ref o0)] ∧ Z.Warmed39 U.vm ∧ U.heap = h0) (fun _ _ _ _ _ => True) (fun _ U o U' => ∃ v L, o = .returned v ∧ (Q_rm3 Z o0 h0 n0) v U'.heap L ∧ FrameEnd U o U' L ({ frames := 1, cells := 1, slots := 16, locals := 20 } : Room).cells ({ frames := 1, cells := 1, slots := 16, locals := 20 } : Room).slots) := by
  refine MetFree.of_bodySF (plainFor_of_name pn_1) hisR ?_
  intro p e s m args below meth c s₁ Bd hml0 hP hK
  obtain ⟨rfl, hZ, hh⟩ := hP
  have hx := Bd.exec
  have hby := Bd.bytes
  have hml : c.maxLocals = 1 := hml0
  have hown : s.vm.findClass "com/example/clockwrap/clockwrap/store/LongTable$Part" = some m.cls := findClass_of_methodNamed Bd.named
  have hnm := (name_of_methodNamed Bd.named Bd.method).1
  have X0 : Stand p l e ({ frames := 1, cells := 1, slots := 16, locals := 20 } : Room) s m #[(.ref o0)] below meth c s₁ [] 0 0 := Stand.of_body Bd
  have e0 : s₁.heap = h0 := by rw [← hh, Bd.state]; rfl
  have N0 := Fr.nil n0
  show OFin p e below (ORet (Q_rm3 Z o0 h0 n0) s ({ frames := 1, cells := 1, slots := 16, locals := 20 } : Room).cells ({ frames := 1, cells := 1, slots := 16, locals := 20 } : Room).slots) (s₁.setTop (entryFrame m #[(.ref o0)] 1))
  refine OFin.go (fun t k => castTop (ef_rm3 m o0) k) ?_
  have K0 := Keep.refl h0 [o0]
  show OFin p e below (ORet (Q_rm3 Z o0 h0 n0) s ({ frames := 1, cells := 1, slots := 16, locals := 20 } : Room).cells ({ frames := 1, cells := 1, slots := 16, locals := 20 } : Room).slots) (s₁.setTop (mkF m 0 #[.val (.ref o0)] []))
  have S1 : ∀ t, Steps p.tables e below (s₁.setTop (mkF m 1 #[.val (.ref o0)] [(.ref o0)])) t → Steps p.tables e below (s₁.setTop (mkF m 0 #[.val (.ref o0)] [])) t := by
    intro t k
    show Steps p.tables e below (s₁.setTop (mkF m 0 #[.val (.ref o0)] [])) t
    refine XS.aloadN X0.here hx rfl (hb hby d3_0) rfl rfl ?_
    exact k
  refine OFin.go S1 ?_
  obtain ⟨T2, X2, e2, st2⟩ := initO X0 hx hZ hown (hw _ (List.mem_of_getElem? (i := 22) rfl)) (hw _ (List.mem_of_getElem? (i := 11) rfl)) (hw _ (List.mem_of_getElem? (i := 12) rfl)) e0 (g := (mkF m 1 #[.val (.ref o0)] [(.ref o0)])) rfl (by rw [hml]; rfl) rfl (hb hby d3_1) (by decide) (W := 0) (by show 2 * 0 + _ ≤ _; exact Nat.le_of_eq rfl) (by decide)
  refine OFin.go st2 ?_
  show OFin p e below _ (T2.setTop (mkF m 4 #[.val (.ref o0)] []))
  have S3 : ∀ t, Steps p.tables e below (T2.setTop (mkF m 7 #[.val (.ref o0)] [(.int (16 : Int32)), (.ref o0)])) t → Steps p.tables e below (T2.setTop (mkF m 4 #[.val (.ref o0)] [])) t := by
    intro t k
    show Steps p.tables e below (T2.setTop (mkF m 4 #[.val (.ref o0)] [])) t
    refine XS.aloadN X2.here hx rfl (hb hby d3_4) rfl rfl ?_
    show Steps p.tables e below (T2.setTop (mkF m 5 #[.val (.ref o0)] [(.ref o0)])) t
    refine XS.bipush X2.here hx rfl (hb hby d3_5) ?_
    exact k
  refine OFin.go S3 ?_
  obtain ⟨T4, h4, k4, X4, e4, E4, A4, st4⟩ := newP X2 hx hZ (hw _ (List.mem_of_getElem? (i := 23) rfl)) e2 (g := (mkF m 7 #[.val (.ref o0)] [(.int (16 : Int32)), (.ref o0)])) rfl (hb hby d3_7) rfl (by decide) (cap := 16) (by decide) (by decide) (Nat.le_of_ble_eq_true rfl) (Nat.le_of_ble_eq_true rfl)
  obtain ⟨b4, g4⟩ : ∃ z, z = h0.size := ⟨_, rfl⟩
  rw [← g4] at A4 st4
  have q5 : o0 ≠ b4 := up_lt E0.lt g4
  have ge4 : n0 ≤ b4 := Nat.le_trans Z0 (Nat.le_of_eq g4.symm)
  have Z4 : n0 ≤ h4.size := Nat.le_trans Z0 E4.1
  have sz4 : h0.size ≤ b4 := Nat.le_trans K0.1 (Nat.le_of_eq g4.symm)
  have K4 := Keep.ext K0 E4
  have V4 : Ara Z h4 b4 .long 16 (fun _ => defaultValue .long) := Ara.new A4 rfl
  refine OFin.go st4 ?_
  show OFin p e below _ (T4.setTop (mkF m 9 #[.val (.ref o0)] [(.ref b4), (.ref o0)]))
  have F6 := F_keys.ext E4
  have F7 := E0.ext E4
  obtain ⟨T8, h8, X8, e8, W8, st8⟩ := putF X4 hx hZ hown (host := "") (Or.inl (hw _ (List.mem_of_getElem? (i := 24) rfl))) Via.refl e4 F6 F7 (Or.inl (hw _ (List.mem_of_getElem? (i := 25) rfl))) (hw _ (List.mem_of_getElem? (i := 17) rfl)) (ty := (.array .long)) (by decide) rfl rfl (g := (mkF m 9 #[.val (.ref o0)] [(.ref b4), (.ref o0)])) rfl rfl (hb hby d3_9)
  have Fw8 := F6.same W8
  have N8 := Fr.snoc X8 N0 ge0
  have Z8 : n0 ≤ h8.size := Nat.le_trans Z4 (wr_le W8)
  have K8 := Keep.wr K4 W8 (Or.inl (List.mem_of_getElem? (i := 0) rfl))
  refine OFin.go st8 ?_
  show OFin p e below _ (T8.setTop (mkF m 12 #[.val (.ref o0)] []))
  have S9 : ∀ t, Steps p.tables e below (T8.setTop (mkF m 17 #[.val (.ref o0)] [(.int (16 : Int32)), (.int (64 : Int32)), (.ref o0)])) t → Steps p.tables e below (T8.setTop (mkF m 12 #[.val (.ref o0)] [])) t := by
    intro t k
    show Steps p.tables e below (T8.setTop (mkF m 12 #[.val (.ref o0)] [])) t
    refine XS.aloadN X8.here hx rfl (hb hby d3_12) rfl rfl ?_
    show Steps p.tables e below (T8.setTop (mkF m 13 #[.val (.ref o0)] [(.ref o0)])) t
    refine XS.bipush X8.here hx rfl (hb hby d3_13) ?_
    show Steps p.tables e below (T8.setTop (mkF m 15 #[.val (.ref o0)] [(.int (64 : Int32)), (.ref o0)])) t
    refine XS.bipush X8.here hx rfl (hb hby d3_15) ?_
    exact k
  refine OFin.go S9 ?_
  obtain ⟨_, T10, Lc10, X10, hQ10, st10⟩ := callQ X8 hx hZ (y := (⟨"java/lang/Integer", "numberOfTrailingZeros", "(I)I"⟩ : MethodName)) hown (hw _ (List.mem_of_getElem? (i := 26) rfl)) (hw _ (List.mem_of_getElem? (i := 27) rfl)) (hw _ (List.mem_of_getElem? (i := 28) rfl)) (hw _ (List.mem_of_getElem? (i := 29) rfl)) (by decide) (argsL := [(.int (16 : Int32))]) (rest := [(.int (64 : Int32)), (.ref o0)]) (rm4 l Z a0 hw [] h8 n0 Z8) (W := 2) (by decide) (by decide) e8 (g := (mkF m 17 #[.val (.ref o0)] [(.int (16 : Int32)), (.int (64 : Int32)), (.ref o0)])) rfl (by rw [hml]; rfl) (lenOf pd_0 rfl) rfl (by show 2 * 0 + _ ≤ _; exact Nat.le_of_eq rfl) (hb hby d3_17) (Nat.le_of_ble_eq_true rfl) (Nat.le_of_ble_eq_true rfl)
  obtain ⟨rfl, N10q, e10⟩ := hQ10
  have N10 := Fr.app N8 N10q
  refine OFin.go st10 ?_
  show OFin p e below _ (T10.setTop (mkF m 20 #[.val (.ref o0)] [(.int (4 : Int32)), (.int (64 : Int32)), (.ref o0)]))
  have S11 : ∀ t, Steps p.tables e below (T10.setTop (mkF m 21 #[.val (.ref o0)] [(.int (60 : Int32)), (.ref o0)])) t → Steps p.tables e below (T10.setTop (mkF m 20 #[.val (.ref o0)] [(.int (4 : Int32)), (.int (64 : Int32)), (.ref o0)])) t := by
    intro t k
    show Steps p.tables e below (T10.setTop (mkF m 20 #[.val (.ref o0)] [(.int (4 : Int32)), (.int (64 : Int32)), (.ref o0)])) t
    refine XS.isub X10.here hx rfl (hb hby d3_20) rfl ?_
    exact k
  refine OFin.go S11 ?_
  have F12 := F_shift.ext E4
  have F13 := F12.other W8 (Or.inr (slot_ne (Or.inl (hw _ (List.mem_of_getElem? (i := 32) rfl))) (Or.inl (hw _ (List.mem_of_getElem? (i := 25) rfl))) (by decide) (t := .int) (t' := (.array .long)) (by decide) (by decide)))
  have F14 := F7.wr W8
  obtain ⟨T15, h15, X15, e15, W15, st15⟩ := putF X10 hx hZ hown (host := "") (Or.inl (hw _ (List.mem_of_getElem? (i := 31) rfl))) Via.refl e10 F13 F14 (Or.inl (hw _ (List.mem_of_getElem? (i := 32) rfl))) (hw _ (List.mem_of_getElem? (i := 17) rfl)) (ty := .int) (by decide) rfl rfl (g := (mkF m 21 #[.val (.ref o0)] [(.int (60 : Int32)), (.ref o0)])) rfl rfl (hb hby d3_21)
  have Fw15 := F13.same W15
  have N15 := Fr.snoc X15 N10 ge0
  have Z15 : n0 ≤ h15.size := Nat.le_trans Z8 (wr_le W15)
  have K15 := Keep.wr K8 W15 (Or.inl (List.mem_of_getElem? (i := 0) rfl))
  refine OFin.go st15 ?_
  show OFin p e below _ (T15.setTop (mkF m 24 #[.val (.ref o0)] []))
  have F16 := Fw8.other W15 (Or.inr (slot_ne (Or.inl (hw _ (List.mem_of_getElem? (i := 25) rfl))) (Or.inl (hw _ (List.mem_of_getElem? (i := 32) rfl))) (by decide) (t := (.array .long)) (t' := .int) (by decide) (by decide)))
  have F17 := F_values.ext E4
  have F18 := F17.other W8 (Or.inr (slot_ne (Or.inl (hw _ (List.mem_of_getElem? (i := 63) rfl))) (Or.inl (hw _ (List.mem_of_getElem? (i := 25) rfl))) (by decide) (t := (.array .long)) (t' := (.array .long)) (by decide) (by decide)))
  have F19 := F18.other W15 (Or.inr (slot_ne (Or.inl (hw _ (List.mem_of_getElem? (i := 63) rfl))) (Or.inl (hw _ (List.mem_of_getElem? (i := 32) rfl))) (by decide) (t := (.array .long)) (t' := .int) (by decide) (by decide)))
  have F20 := F_taken.ext E4
  have F21 := F20.other W8 (Or.inr (slot_ne (Or.inl (hw _ (List.mem_of_getElem? (i := 65) rfl))) (Or.inl (hw _ (List.mem_of_getElem? (i := 25) rfl))) (by decide) (t := .int) (t' := (.array .long)) (by decide) (by decide)))
  have F22 := F21.other W15 (Or.inr (slot_ne (Or.inl (hw _ (List.mem_of_getElem? (i := 65) rfl))) (Or.inl (hw _ (List.mem_of_getElem? (i := 32) rfl))) (by decide) (t := .int) (t' := .int) (by decide) (by decide)))
  have F23 := V4.other W8 (Ne.symm q5)
  have F24 := F23.other W15 (Ne.symm q5)
  exact finV X15 hx Bd.notSynchronized Bd.returns (hb hby d3_24) (by decide) (by decide) (by rw [e15]; exact ⟨b4, rfl, N15, K15, sz4, F16, Fw15, F19, F22, F24⟩)
theorem ef_rm9 (m : MethodId) (o0 : Addr) (key : Int64) : entryFrame m #[(.ref o0), (.long key)] 3 = mkF m 0 #[.val (.ref o0), .val (.long key), .second] [] := by first | (simp [entryFrame, mkF, argsToLocals, Value.category]; done) | rfl
def Q_rm9 (Z : State) (o0 : Addr) (key : Int64)  (h0 : Heap) (n0 : Nat) (v : Option Value) (h : Heap) (L : List Loc) : Prop := v = some (.int (hmI key)) ∧ Fr n0 L ∧ h = h0
theorem d9_0 : decode prog_33_method_9_code 0 = .ok (.lload_n 1, 1) := by decide +kernel
theorem d9_1 : decode prog_33_method_9_code 1 = .ok (.ldc2_w 51, 3) := by decide +kernel
theorem d9_4 : decode prog_33_method_9_code 4 = .ok (.lmul, 1) := by decide +kernel
theorem d9_5 : decode prog_33_method_9_code 5 = .ok (.bipush 6, 2) := by decide +kernel
theorem d9_7 : decode prog_33_method_9_code 7 = .ok (.lshl, 1) := by decide +kernel
theorem d9_8 : decode prog_33_method_9_code 8 = .ok (.aload_n 0, 1) := by decide +kernel
theorem d9_9 : decode prog_33_method_9_code 9 = .ok (.getfield 23, 3) := by decide +kernel
theorem d9_12 : decode prog_33_method_9_code 12 = .ok (.lushr, 1) := by decide +kernel
theorem d9_13 : decode prog_33_method_9_code 13 = .ok (.l2i, 1) := by decide +kernel
theorem d9_14 : decode prog_33_method_9_code 14 = .ok (.ireturn, 1) := by decide +kernel
set_option maxRecDepth 65536 in
set_option maxHeartbeats 40000000 in
theorem rm9 (l : Launch) (Z : State) (a0 : Array Value) (hw : ∀ d ∈ tables_1, d.before a0 Z = true) (ws : List Jvm.Cond) (o0 : Addr) (key : Int64)  (h0 : Heap) (n0 : Nat) (Z0 : n0 ≤ h0.size) (Fs : Fld Z h0 o0 "com/example/clockwrap/clockwrap/store/LongTable$Part" "shift" "I" (.int (60 : Int32))) :
    MetFree l (⟨"com/example/clockwrap/clockwrap/store/LongTable$Part", "home", "(J)I"⟩ : MethodName) (head1 (Jvm.Cond.code (⟨"com/example/clockwrap/clockwrap/store/LongTable$Part", "home", "(J)I"⟩ : MethodName) prog_33_method_9_code 3 (some .int) :: ws) ({ frames := 0, cells := 0, slots := 0, locals := 0 } : Room)) (fun a U => a = #[(.ref o0), (.long key)] ∧ Z.Warmed39 U.vm ∧ U.heap = h0) (fun _ _ _ _ _ => True) (fun _ U o U' => ∃ v L, o = .returned v ∧ (Q_rm9 Z o0 key h0 n0) v U'.heap L ∧ FrameEnd U o U' L ({ frames := 0, cells := 0, slots := 0, locals := 0 } : Room).cells ({ frames := 0, cells := 0, slots := 0, locals := 0 } : Room).slots) := by
  refine MetFree.of_bodySF (plainFor_of_name pn_1) hisR ?_
  intro p e s m args below meth c s₁ Bd hml0 hP hK
  obtain ⟨rfl, hZ, hh⟩ := hP
  have hx := Bd.exec
  have hby := Bd.bytes
  have hml : c.maxLocals = 3 := hml0
  have hown : s.vm.findClass "com/example/clockwrap/clockwrap/store/LongTable$Part" = some m.cls := findClass_of_methodNamed Bd.named
  have hnm := (name_of_methodNamed Bd.named Bd.method).1
  have X0 : Stand p l e ({ frames := 0, cells := 0, slots := 0, locals := 0 } : Room) s m #[(.ref o0), (.long key)] below meth c s₁ [] 0 0 := Stand.of_body Bd
  have e0 : s₁.heap = h0 := by rw [← hh, Bd.state]; rfl
  have N0 := Fr.nil n0
  show OFin p e below (ORet (Q_rm9 Z o0 key h0 n0) s ({ frames := 0, cells := 0, slots := 0, locals := 0 } : Room).cells ({ frames := 0, cells := 0, slots := 0, locals := 0 } : Room).slots) (s₁.setTop (entryFrame m #[(.ref o0), (.long key)] 3))
  refine OFin.go (fun t k => castTop (ef_rm9 m o0 key) k) ?_
  show OFin p e below (ORet (Q_rm9 Z o0 key h0 n0) s ({ frames := 0, cells := 0, slots := 0, locals := 0 } : Room).cells ({ frames := 0, cells := 0, slots := 0, locals := 0 } : Room).slots) (s₁.setTop (mkF m 0 #[.val (.ref o0), .val (.long key), .second] []))
  have S1 : ∀ t, Steps p.tables e below (s₁.setTop (mkF m 9 #[.val (.ref o0), .val (.long key), .second] [(.ref o0), (.long ((key * (-7046029254386353131 : Int64)) <<< ((6 : Int32) &&& 0x3f).toInt64))])) t → Steps p.tables e below (s₁.setTop (mkF m 0 #[.val (.ref o0), .val (.long key), .second] [])) t := by
    intro t k
    show Steps p.tables e below (s₁.setTop (mkF m 0 #[.val (.ref o0), .val (.long key), .second] [])) t
    refine XS.lloadN X0.here hx rfl (hb hby d9_0) rfl ?_
    show Steps p.tables e below (s₁.setTop (mkF m 1 #[.val (.ref o0), .val (.long key), .second] [(.long key)])) t
    refine X0.ldc2Long hx hown (mvT hZ (hw _ (List.mem_of_getElem? (i := 57) rfl))) (g := (mkF m 1 #[.val (.ref o0), .val (.long key), .second] [(.long key)])) rfl (hb hby d9_1) _ ?_
    show Steps p.tables e below (s₁.setTop (mkF m 4 #[.val (.ref o0), .val (.long key), .second] [(.long (-7046029254386353131 : Int64)), (.long key)])) t
    refine XS.lmul X0.here hx rfl (hb hby d9_4) rfl ?_
    show Steps p.tables e below (s₁.setTop (mkF m 5 #[.val (.ref o0), .val (.long key), .second] [(.long (key * (-7046029254386353131 : Int64)))])) t
    refine XS.bipush X0.here hx rfl (hb hby d9_5) ?_
    show Steps p.tables e below (s₁.setTop (mkF m 7 #[.val (.ref o0), .val (.long key), .second] [(.int (6 : Int32)), (.long (key * (-7046029254386353131 : Int64)))])) t
    refine XS.lshl X0.here hx rfl (hb hby d9_7) rfl ?_
    show Steps p.tables e below (s₁.setTop (mkF m 8 #[.val (.ref o0), .val (.long key), .second] [(.long ((key * (-7046029254386353131 : Int64)) <<< ((6 : Int32) &&& 0x3f).toInt64))])) t
    refine XS.aloadN X0.here hx rfl (hb hby d9_8) rfl rfl ?_
    exact k
  refine OFin.go S1 ?_
  obtain ⟨T2, X2, e2, st2⟩ := getF X0 hx hZ hown (host := "") (Or.inl (hw _ (List.mem_of_getElem? (i := 31) rfl))) Via.refl e0 Fs (g := (mkF m 9 #[.val (.ref o0), .val (.long key), .second] [(.ref o0), (.long ((key * (-7046029254386353131 : Int64)) <<< ((6 : Int32) &&& 0x3f).toInt64))])) rfl rfl (hb hby d9_9)
  refine OFin.go st2 ?_
  show OFin p e below _ (T2.setTop (mkF m 12 #[.val (.ref o0), .val (.long key), .second] [(.int (60 : Int32)), (.long ((key * (-7046029254386353131 : Int64)) <<< ((6 : Int32) &&& 0x3f).toInt64))]))
  have S3 : ∀ t, Steps p.tables e below (T2.setTop (mkF m 14 #[.val (.ref o0), .val (.long key), .second] [(.int (((((key * (-7046029254386353131 : Int64)) <<< ((6 : Int32) &&& 0x3f).toInt64).toUInt64 >>> ((60 : Int32) &&& 0x3f).toInt64.toUInt64).toInt64).toInt32))])) t → Steps p.tables e below (T2.setTop (mkF m 12 #[.val (.ref o0), .val (.long key), .second] [(.int (60 : Int32)), (.long ((key * (-7046029254386353131 : Int64)) <<< ((6 : Int32) &&& 0x3f).toInt64))])) t := by
    intro t k
    show Steps p.tables e below (T2.setTop (mkF m 12 #[.val (.ref o0), .val (.long key), .second] [(.int (60 : Int32)), (.long ((key * (-7046029254386353131 : Int64)) <<< ((6 : Int32) &&& 0x3f).toInt64))])) t
    refine XS.lushr X2.here hx rfl (hb hby d9_12) rfl ?_
    show Steps p.tables e below (T2.setTop (mkF m 13 #[.val (.ref o0), .val (.long key), .second] [(.long ((((key * (-7046029254386353131 : Int64)) <<< ((6 : Int32) &&& 0x3f).toInt64).toUInt64 >>> ((60 : Int32) &&& 0x3f).toInt64.toUInt64).toInt64))])) t
    refine XS.l2i X2.here hx rfl (hb hby d9_13) rfl ?_
    exact k
  refine OFin.go S3 ?_
  exact finI X2 hx Bd.notSynchronized Bd.returns (hb hby d9_14) (by decide) (by decide) (⟨rfl, N0, e2⟩)
theorem ef_rm8 (m : MethodId) (o0 : Addr) (key : Int64) : entryFrame m #[(.ref o0), (.long key)] 5 = mkF m 0 #[.val (.ref o0), .val (.long key), .second, .unset, .unset] [] := by first | (simp [entryFrame, mkF, argsToLocals, Value.category]; done) | rfl
def Q_rm8 (Z : State) (o0 : Addr) (key : Int64) (ka : Addr) (kf : Nat → Int64) (h0 : Heap) (n0 : Nat) (v : Option Value) (h : Heap) (L : List Loc) : Prop := ∃ sl : Int32, v = some (.int sl) ∧ Fr n0 L ∧ h = h0 ∧ ¬ sl < 0 ∧ Fnd hm kf key sl.toNatClampNeg
theorem d8_0 : decode prog_33_method_8_code 0 = .ok (.aload_n 0, 1) := by decide +kernel
theorem d8_1 : decode prog_33_method_8_code 1 = .ok (.getfield 11, 3) := by decide +kernel
theorem d8_4 : decode prog_33_method_8_code 4 = .ok (.arraylength, 1) := by decide +kernel
theorem d8_5 : decode prog_33_method_8_code 5 = .ok (.iconst 1, 1) := by decide +kernel
theorem d8_6 : decode prog_33_method_8_code 6 = .ok (.isub, 1) := by decide +kernel
theorem d8_7 : decode prog_33_method_8_code 7 = .ok (.istore_n 3, 1) := by decide +kernel
theorem d8_8 : decode prog_33_method_8_code 8 = .ok (.aload_n 0, 1) := by decide +kernel
theorem d8_9 : decode prog_33_method_8_code 9 = .ok (.lload_n 1, 1) := by decide +kernel
theorem pd_1 : parseMethodDescriptor "(J)I" = some ⟨[.long], some .int⟩ := by decide +kernel
theorem d8_10 : decode prog_33_method_8_code 10 = .ok (.invokevirtual 48, 3) := by decide +kernel
theorem d8_13 : decode prog_33_method_8_code 13 = .ok (.istore 4, 2) := by decide +kernel
theorem d8_15 : decode prog_33_method_8_code 15 = .ok (.aload_n 0, 1) := by decide +kernel
theorem d8_16 : decode prog_33_method_8_code 16 = .ok (.getfield 11, 3) := by decide +kernel
theorem d8_19 : decode prog_33_method_8_code 19 = .ok (.iload 4, 2) := by decide +kernel
theorem d8_21 : decode prog_33_method_8_code 21 = .ok (.laload, 1) := by decide +kernel
theorem d8_22 : decode prog_33_method_8_code 22 = .ok (.lconst 0, 1) := by decide +kernel
theorem d8_23 : decode prog_33_method_8_code 23 = .ok (.lcmp, 1) := by decide +kernel
theorem d8_24 : decode prog_33_method_8_code 24 = .ok (.ifCond .eq 26, 3) := by decide +kernel
theorem d8_50 : decode prog_33_method_8_code 50 = .ok (.iload 4, 2) := by decide +kernel
theorem d8_52 : decode prog_33_method_8_code 52 = .ok (.ireturn, 1) := by decide +kernel
theorem d8_27 : decode prog_33_method_8_code 27 = .ok (.aload_n 0, 1) := by decide +kernel
theorem d8_28 : decode prog_33_method_8_code 28 = .ok (.getfield 11, 3) := by decide +kernel
theorem d8_31 : decode prog_33_method_8_code 31 = .ok (.iload 4, 2) := by decide +kernel
theorem d8_33 : decode prog_33_method_8_code 33 = .ok (.laload, 1) := by decide +kernel
theorem d8_34 : decode prog_33_method_8_code 34 = .ok (.lload_n 1, 1) := by decide +kernel
theorem d8_35 : decode prog_33_method_8_code 35 = .ok (.lcmp, 1) := by decide +kernel
theorem d8_36 : decode prog_33_method_8_code 36 = .ok (.ifCond .eq 14, 3) := by decide +kernel
theorem d8_39 : decode prog_33_method_8_code 39 = .ok (.iload 4, 2) := by decide +kernel
theorem d8_41 : decode prog_33_method_8_code 41 = .ok (.iconst 1, 1) := by decide +kernel
theorem d8_42 : decode prog_33_method_8_code 42 = .ok (.iadd, 1) := by decide +kernel
theorem d8_43 : decode prog_33_method_8_code 43 = .ok (.iload_n 3, 1) := by decide +kernel
theorem d8_44 : decode prog_33_method_8_code 44 = .ok (.iand, 1) := by decide +kernel
theorem d8_45 : decode prog_33_method_8_code 45 = .ok (.istore 4, 2) := by decide +kernel
theorem d8_47 : decode prog_33_method_8_code 47 = .ok (.goto (-32), 3) := by decide +kernel
set_option maxRecDepth 65536 in
set_option maxHeartbeats 40000000 in
theorem rm8 (l : Launch) (Z : State) (a0 : Array Value) (hw : ∀ d ∈ tables_1, d.before a0 Z = true) (ws : List Jvm.Cond) (o0 : Addr) (key : Int64) (ka : Addr) (kf : Nat → Int64) (h0 : Heap) (n0 : Nat) (Z0 : n0 ≤ h0.size) (E0 : Exa Z h0 o0 "com/example/clockwrap/clockwrap/store/LongTable$Part") (Fs : Fld Z h0 o0 "com/example/clockwrap/clockwrap/store/LongTable$Part" "shift" "I" (.int (60 : Int32))) (Fk : Fld Z h0 o0 "com/example/clockwrap/clockwrap/store/LongTable$Part" "keys" "[J" (.ref ka)) (Va : Ara Z h0 ka .long 16 (fun i => .long (kf i))) (hz : ∃ z, z < 16 ∧ kf z = 0) :
    MetFree l (⟨"com/example/clockwrap/clockwrap/store/LongTable$Part", "slot", "(J)I"⟩ : MethodName) (head1 (Jvm.Cond.code (⟨"com/example/clockwrap/clockwrap/store/LongTable$Part", "slot", "(J)I"⟩ : MethodName) prog_33_method_8_code 5 (some .int) :: ws) ({ frames := 1, cells := 0, slots := 0, locals := 14 } : Room)) (fun a U => a = #[(.ref o0), (.long key)] ∧ Z.Warmed39 U.vm ∧ U.heap = h0) (fun _ _ _ _ _ => True) (fun _ U o U' => ∃ v L, o = .returned v ∧ (Q_rm8 Z o0 key ka kf h0 n0) v U'.heap L ∧ FrameEnd U o U' L ({ frames := 1, cells := 0, slots := 0, locals := 14 } : Room).cells ({ frames := 1, cells := 0, slots := 0, locals := 14 } : Room).slots) := by
  refine MetFree.of_bodySF (plainFor_of_name pn_1) hisR ?_
  intro p e s m args below meth c s₁ Bd hml0 hP hK
  obtain ⟨rfl, hZ, hh⟩ := hP
  have hx := Bd.exec
  have hby := Bd.bytes
  have hml : c.maxLocals = 5 := hml0
  have hown : s.vm.findClass "com/example/clockwrap/clockwrap/store/LongTable$Part" = some m.cls := findClass_of_methodNamed Bd.named
  have hnm := (name_of_methodNamed Bd.named Bd.method).1
  have X0 : Stand p l e ({ frames := 1, cells := 0, slots := 0, locals := 14 } : Room) s m #[(.ref o0), (.long key)] below meth c s₁ [] 0 0 := Stand.of_body Bd
  have e0 : s₁.heap = h0 := by rw [← hh, Bd.state]; rfl
  have N0 := Fr.nil n0
  show OFin p e below (ORet (Q_rm8 Z o0 key ka kf h0 n0) s ({ frames := 1, cells := 0, slots := 0, locals := 14 } : Room).cells ({ frames := 1, cells := 0, slots := 0, locals := 14 } : Room).slots) (s₁.setTop (entryFrame m #[(.ref o0), (.long key)] 5))
  refine OFin.go (fun t k => castTop (ef_rm8 m o0 key) k) ?_
  obtain ⟨dz, hdz, hz0⟩ : ∃ dz, dz < 16 ∧ kf ((hm key + dz) % 16) = 0 := by
    obtain ⟨z, hz1, hz2⟩ := hz
    have := hm_lt key
    exact ⟨(z + 16 - hm key) % 16, by omega, by rw [show (hm key + (z + 16 - hm key) % 16) % 16 = z by omega]; exact hz2⟩
  show OFin p e below (ORet (Q_rm8 Z o0 key ka kf h0 n0) s ({ frames := 1, cells := 0, slots := 0, locals := 14 } : Room).cells ({ frames := 1, cells := 0, slots := 0, locals := 14 } : Room).slots) (s₁.setTop (mkF m 0 #[.val (.ref o0), .val (.long key), .second, .unset, .unset] []))
  have S1 : ∀ t, Steps p.tables e below (s₁.setTop (mkF m 1 #[.val (.ref o0), .val (.long key), .second, .unset, .unset] [(.ref o0)])) t → Steps p.tables e below (s₁.setTop (mkF m 0 #[.val (.ref o0), .val (.long key), .second, .unset, .unset] [])) t := by
    intro t k
    show Steps p.tables e below (s₁.setTop (mkF m 0 #[.val (.ref o0), .val (.long key), .second, .unset, .unset] [])) t
    refine XS.aloadN X0.here hx rfl (hb hby d8_0) rfl rfl ?_
    exact k
  refine OFin.go S1 ?_
  obtain ⟨T2, X2, e2, st2⟩ := getF X0 hx hZ hown (host := "") (Or.inl (hw _ (List.mem_of_getElem? (i := 24) rfl))) Via.refl e0 Fk (g := (mkF m 1 #[.val (.ref o0), .val (.long key), .second, .unset, .unset] [(.ref o0)])) rfl rfl (hb hby d8_1)
  refine OFin.go st2 ?_
  show OFin p e below _ (T2.setTop (mkF m 4 #[.val (.ref o0), .val (.long key), .second, .unset, .unset] [(.ref ka)]))
  have S3 : ∀ t, Steps p.tables e below (T2.setTop (mkF m 10 #[.val (.ref o0), .val (.long key), .second, .val (.int (15 : Int32)), .unset] [(.long key), (.ref o0)])) t → Steps p.tables e below (T2.setTop (mkF m 4 #[.val (.ref o0), .val (.long key), .second, .unset, .unset] [(.ref ka)])) t := by
    intro t k
    show Steps p.tables e below (T2.setTop (mkF m 4 #[.val (.ref o0), .val (.long key), .second, .unset, .unset] [(.ref ka)])) t
    refine alen X2 hx hZ e2 Va (z := (16 : Int32)) rfl (g := (mkF m 4 #[.val (.ref o0), .val (.long key), .second, .unset, .unset] [(.ref ka)])) rfl rfl (hb hby d8_4) ?_
    show Steps p.tables e below (T2.setTop (mkF m 5 #[.val (.ref o0), .val (.long key), .second, .unset, .unset] [(.int (16 : Int32))])) t
    refine XS.iconst X2.here hx rfl (hb hby d8_5) ?_
    show Steps p.tables e below (T2.setTop (mkF m 6 #[.val (.ref o0), .val (.long key), .second, .unset, .unset] [(.int (1 : Int32)), (.int (16 : Int32))])) t
    refine XS.isub X2.here hx rfl (hb hby d8_6) rfl ?_
    show Steps p.tables e below (T2.setTop (mkF m 7 #[.val (.ref o0), .val (.long key), .second, .unset, .unset] [(.int (15 : Int32))])) t
    refine XS.istoreN X2.here hx rfl (hb hby d8_7) rfl (l' := #[.val (.ref o0), .val (.long key), .second, .val (.int (15 : Int32)), .unset]) rfl ?_
    show Steps p.tables e below (T2.setTop (mkF m 8 #[.val (.ref o0), .val (.long key), .second, .val (.int (15 : Int32)), .unset] [])) t
    refine XS.aloadN X2.here hx rfl (hb hby d8_8) rfl rfl ?_
    show Steps p.tables e below (T2.setTop (mkF m 9 #[.val (.ref o0), .val (.long key), .second, .val (.int (15 : Int32)), .unset] [(.ref o0)])) t
    refine XS.lloadN X2.here hx rfl (hb hby d8_9) rfl ?_
    exact k
  refine OFin.go S3 ?_
  obtain ⟨_, T4, Lc4, X4, hQ4, st4⟩ := privQ X2 hx hZ (y := (⟨"com/example/clockwrap/clockwrap/store/LongTable$Part", "home", "(J)I"⟩ : MethodName)) hown (hw _ (List.mem_of_getElem? (i := 53) rfl)) (hw _ (List.mem_of_getElem? (i := 54) rfl)) (hw _ (List.mem_of_getElem? (i := 18) rfl)) (hw _ (List.mem_of_getElem? (i := 56) rfl)) (hw _ (List.mem_of_getElem? (i := 55) rfl)) (hw _ (List.mem_of_getElem? (i := 17) rfl)) (by decide) E0 (argsL := [(.long key)]) (rest := []) (rm9 l Z a0 hw [] o0 key h0 n0 Z0 Fs) (W := 0) (by decide) (by decide) e2 (g := (mkF m 10 #[.val (.ref o0), .val (.long key), .second, .val (.int (15 : Int32)), .unset] [(.long key), (.ref o0)])) rfl (by rw [hml]; rfl) (lenOf pd_1 rfl) rfl (by show 2 * 0 + _ ≤ _; exact Nat.le_of_eq rfl) (hb hby d8_10) (Nat.le_of_ble_eq_true rfl) (Nat.le_of_ble_eq_true rfl)
  obtain ⟨rfl, N4q, e4⟩ := hQ4
  have N4 := Fr.app N0 N4q
  refine OFin.go st4 ?_
  show OFin p e below _ (T4.setTop (mkF m 13 #[.val (.ref o0), .val (.long key), .second, .val (.int (15 : Int32)), .unset] [(.int (hmI key))]))
  have S5 : ∀ t, Steps p.tables e below (T4.setTop (mkF m 15 #[.val (.ref o0), .val (.long key), .second, .val (.int (15 : Int32)), .val (.int (hmI key))] [])) t → Steps p.tables e below (T4.setTop (mkF m 13 #[.val (.ref o0), .val (.long key), .second, .val (.int (15 : Int32)), .unset] [(.int (hmI key))])) t := by
    intro t k
    show Steps p.tables e below (T4.setTop (mkF m 13 #[.val (.ref o0), .val (.long key), .second, .val (.int (15 : Int32)), .unset] [(.int (hmI key))])) t
    refine XS.istore X4.here hx rfl (hb hby d8_13) rfl (l' := #[.val (.ref o0), .val (.long key), .second, .val (.int (15 : Int32)), .val (.int (hmI key))]) rfl ?_
    exact k
  refine OFin.go S5 ?_
  have LOOP6 : ∀ (k : Nat) (Tk : State) (lo_ : List Loc) (ce_ sl_ : Nat) (Xk : Stand p l e ({ frames := 1, cells := 0, slots := 0, locals := 14 } : Room) s m #[(.ref o0), (.long key)] below meth c Tk lo_ ce_ sl_) (ek : Tk.heap = h0) (Nk : Fr n0 lo_) (hce_ : ce_ ≤ ({ frames := 1, cells := 0, slots := 0, locals := 14 } : Room).cells) (hsl_ : sl_ ≤ ({ frames := 1, cells := 0, slots := 0, locals := 14 } : Room).slots) (sl : Int32), (∃ j, j + k = dz ∧ ¬ sl < 0 ∧ sl.toNatClampNeg = (hm key + j) % 16 ∧ ∀ d, d < j → kf ((hm key + d) % 16) ≠ 0 ∧ kf ((hm key + d) % 16) ≠ key) → OFin p e below (ORet (Q_rm8 Z o0 key ka kf h0 n0) s ({ frames := 1, cells := 0, slots := 0, locals := 14 } : Room).cells ({ frames := 1, cells := 0, slots := 0, locals := 14 } : Room).slots) (Tk.setTop (mkF m 15 #[.val (.ref o0), .val (.long key), .second, .val (.int (15 : Int32)), .val (.int sl)] [])) := by
    intro k
    induction k with
    | zero =>
      intro Tk lo_ ce_ sl_ Xk ek Nk hce_ hsl_ sl  hinv
      obtain ⟨j, hj, hs0, hsl, hbe⟩ := hinv
      have S7 : ∀ t, Steps p.tables e below (Tk.setTop (mkF m 16 #[.val (.ref o0), .val (.long key), .second, .val (.int (15 : Int32)), .val (.int sl)] [(.ref o0)])) t → Steps p.tables e below (Tk.setTop (mkF m 15 #[.val (.ref o0), .val (.long key), .second, .val (.int (15 : Int32)), .val (.int sl)] [])) t := by
        intro t k
        show Steps p.tables e below (Tk.setTop (mkF m 15 #[.val (.ref o0), .val (.long key), .second, .val (.int (15 : Int32)), .val (.int sl)] [])) t
        refine XS.aloadN Xk.here hx rfl (hb hby d8_15) rfl rfl ?_
        exact k
      refine OFin.go S7 ?_
      obtain ⟨T8, X8, e8, st8⟩ := getF Xk hx hZ hown (host := "") (Or.inl (hw _ (List.mem_of_getElem? (i := 24) rfl))) Via.refl ek Fk (g := (mkF m 16 #[.val (.ref o0), .val (.long key), .second, .val (.int (15 : Int32)), .val (.int sl)] [(.ref o0)])) rfl rfl (hb hby d8_16)
      refine OFin.go st8 ?_
      show OFin p e below _ (T8.setTop (mkF m 19 #[.val (.ref o0), .val (.long key), .second, .val (.int (15 : Int32)), .val (.int sl)] [(.ref ka)]))
      have S9 : ∀ t, Steps p.tables e below (T8.setTop (mkF m 24 #[.val (.ref o0), .val (.long key), .second, .val (.int (15 : Int32)), .val (.int sl)] [(.int (lcmpW (kf sl.toNatClampNeg) (0 : Int64)))])) t → Steps p.tables e below (T8.setTop (mkF m 19 #[.val (.ref o0), .val (.long key), .second, .val (.int (15 : Int32)), .val (.int sl)] [(.ref ka)])) t := by
        intro t k
        show Steps p.tables e below (T8.setTop (mkF m 19 #[.val (.ref o0), .val (.long key), .second, .val (.int (15 : Int32)), .val (.int sl)] [(.ref ka)])) t
        refine XS.iload X8.here hx rfl (hb hby d8_19) rfl ?_
        show Steps p.tables e below (T8.setTop (mkF m 21 #[.val (.ref o0), .val (.long key), .second, .val (.int (15 : Int32)), .val (.int sl)] [(.int sl), (.ref ka)])) t
        refine rdJ X8 hx hZ e8 Va (i := sl.toNatClampNeg) hs0 rfl (by omega) (x := (.long (kf sl.toNatClampNeg))) rfl (g := (mkF m 21 #[.val (.ref o0), .val (.long key), .second, .val (.int (15 : Int32)), .val (.int sl)] [(.int sl), (.ref ka)])) rfl rfl (hb hby d8_21) ?_
        show Steps p.tables e below (T8.setTop (mkF m 22 #[.val (.ref o0), .val (.long key), .second, .val (.int (15 : Int32)), .val (.int sl)] [(.long (kf sl.toNatClampNeg))])) t
        refine XS.lconst X8.here hx rfl (hb hby d8_22) ?_
        show Steps p.tables e below (T8.setTop (mkF m 23 #[.val (.ref o0), .val (.long key), .second, .val (.int (15 : Int32)), .val (.int sl)] [(.long (0 : Int64)), (.long (kf sl.toNatClampNeg))])) t
        refine XS.lcmp X8.here hx rfl (hb hby d8_23) rfl ?_
        exact k
      refine OFin.go S9 ?_
      have S10 : ∀ t, Steps p.tables e below (T8.setTop (mkF m 50 #[.val (.ref o0), .val (.long key), .second, .val (.int (15 : Int32)), .val (.int sl)] [])) t → Steps p.tables e below (T8.setTop (mkF m 24 #[.val (.ref o0), .val (.long key), .second, .val (.int (15 : Int32)), .val (.int sl)] [(.int (lcmpW (kf sl.toNatClampNeg) (0 : Int64)))])) t := by
        intro t k
        show Steps p.tables e below (T8.setTop (mkF m 24 #[.val (.ref o0), .val (.long key), .second, .val (.int (15 : Int32)), .val (.int sl)] [(.int (lcmpW (kf sl.toNatClampNeg) (0 : Int64)))])) t
        refine XS.ifYes X8.here hx rfl (pc0 := 24) (pc' := 50) rfl (hb hby d8_24) rfl (lc_eq_t (by rw [hsl, show j = dz by omega]; exact hz0)) (by decide) (by decide) ?_
        exact k
      refine OFin.go S10 ?_
      have S11 : ∀ t, Steps p.tables e below (T8.setTop (mkF m 52 #[.val (.ref o0), .val (.long key), .second, .val (.int (15 : Int32)), .val (.int sl)] [(.int sl)])) t → Steps p.tables e below (T8.setTop (mkF m 50 #[.val (.ref o0), .val (.long key), .second, .val (.int (15 : Int32)), .val (.int sl)] [])) t := by
        intro t k
        show Steps p.tables e below (T8.setTop (mkF m 50 #[.val (.ref o0), .val (.long key), .second, .val (.int (15 : Int32)), .val (.int sl)] [])) t
        refine XS.iload X8.here hx rfl (hb hby d8_50) rfl ?_
        exact k
      refine OFin.go S11 ?_
      exact finI X8 hx Bd.notSynchronized Bd.returns (hb hby d8_52) hce_ hsl_ (⟨sl, rfl, Nk, e8, hs0, j, by omega, hsl, Or.inl (by rw [hsl, show j = dz by omega]; exact hz0), hbe⟩)
    | succ k ih =>
      intro Tk lo_ ce_ sl_ Xk ek Nk hce_ hsl_ sl  hinv
      obtain ⟨j, hj, hs0, hsl, hbe⟩ := hinv
      have S12 : ∀ t, Steps p.tables e below (Tk.setTop (mkF m 16 #[.val (.ref o0), .val (.long key), .second, .val (.int (15 : Int32)), .val (.int sl)] [(.ref o0)])) t → Steps p.tables e below (Tk.setTop (mkF m 15 #[.val (.ref o0), .val (.long key), .second, .val (.int (15 : Int32)), .val (.int sl)] [])) t := by
        intro t k
        show Steps p.tables e below (Tk.setTop (mkF m 15 #[.val (.ref o0), .val (.long key), .second, .val (.int (15 : Int32)), .val (.int sl)] [])) t
        refine XS.aloadN Xk.here hx rfl (hb hby d8_15) rfl rfl ?_
        exact k
      refine OFin.go S12 ?_
      obtain ⟨T13, X13, e13, st13⟩ := getF Xk hx hZ hown (host := "") (Or.inl (hw _ (List.mem_of_getElem? (i := 24) rfl))) Via.refl ek Fk (g := (mkF m 16 #[.val (.ref o0), .val (.long key), .second, .val (.int (15 : Int32)), .val (.int sl)] [(.ref o0)])) rfl rfl (hb hby d8_16)
      refine OFin.go st13 ?_
      show OFin p e below _ (T13.setTop (mkF m 19 #[.val (.ref o0), .val (.long key), .second, .val (.int (15 : Int32)), .val (.int sl)] [(.ref ka)]))
      have S14 : ∀ t, Steps p.tables e below (T13.setTop (mkF m 24 #[.val (.ref o0), .val (.long key), .second, .val (.int (15 : Int32)), .val (.int sl)] [(.int (lcmpW (kf sl.toNatClampNeg) (0 : Int64)))])) t → Steps p.tables e below (T13.setTop (mkF m 19 #[.val (.ref o0), .val (.long key), .second, .val (.int (15 : Int32)), .val (.int sl)] [(.ref ka)])) t := by
        intro t k
        show Steps p.tables e below (T13.setTop (mkF m 19 #[.val (.ref o0), .val (.long key), .second, .val (.int (15 : Int32)), .val (.int sl)] [(.ref ka)])) t
        refine XS.iload X13.here hx rfl (hb hby d8_19) rfl ?_
        show Steps p.tables e below (T13.setTop (mkF m 21 #[.val (.ref o0), .val (.long key), .second, .val (.int (15 : Int32)), .val (.int sl)] [(.int sl), (.ref ka)])) t
        refine rdJ X13 hx hZ e13 Va (i := sl.toNatClampNeg) hs0 rfl (by omega) (x := (.long (kf sl.toNatClampNeg))) rfl (g := (mkF m 21 #[.val (.ref o0), .val (.long key), .second, .val (.int (15 : Int32)), .val (.int sl)] [(.int sl), (.ref ka)])) rfl rfl (hb hby d8_21) ?_
        show Steps p.tables e below (T13.setTop (mkF m 22 #[.val (.ref o0), .val (.long key), .second, .val (.int (15 : Int32)), .val (.int sl)] [(.long (kf sl.toNatClampNeg))])) t
        refine XS.lconst X13.here hx rfl (hb hby d8_22) ?_
        show Steps p.tables e below (T13.setTop (mkF m 23 #[.val (.ref o0), .val (.long key), .second, .val (.int (15 : Int32)), .val (.int sl)] [(.long (0 : Int64)), (.long (kf sl.toNatClampNeg))])) t
        refine XS.lcmp X13.here hx rfl (hb hby d8_23) rfl ?_
        exact k
      refine OFin.go S14 ?_
      by_cases h15 : ((kf sl.toNatClampNeg) = (0 : Int64))
      · -- pc 24: ((kf sl.toNatClampNeg) = (0 : Int64))
        have S16 : ∀ t, Steps p.tables e below (T13.setTop (mkF m 50 #[.val (.ref o0), .val (.long key), .second, .val (.int (15 : Int32)), .val (.int sl)] [])) t → Steps p.tables e below (T13.setTop (mkF m 24 #[.val (.ref o0), .val (.long key), .second, .val (.int (15 : Int32)), .val (.int sl)] [(.int (lcmpW (kf sl.toNatClampNeg) (0 : Int64)))])) t := by
          intro t k
          show Steps p.tables e below (T13.setTop (mkF m 24 #[.val (.ref o0), .val (.long key), .second, .val (.int (15 : Int32)), .val (.int sl)] [(.int (lcmpW (kf sl.toNatClampNeg) (0 : Int64)))])) t
          refine XS.ifYes X13.here hx rfl (pc0 := 24) (pc' := 50) rfl (hb hby d8_24) rfl (lc_eq_t h15) (by decide) (by decide) ?_
          exact k
        refine OFin.go S16 ?_
        have S17 : ∀ t, Steps p.tables e below (T13.setTop (mkF m 52 #[.val (.ref o0), .val (.long key), .second, .val (.int (15 : Int32)), .val (.int sl)] [(.int sl)])) t → Steps p.tables e below (T13.setTop (mkF m 50 #[.val (.ref o0), .val (.long key), .second, .val (.int (15 : Int32)), .val (.int sl)] [])) t := by
          intro t k
          show Steps p.tables e below (T13.setTop (mkF m 50 #[.val (.ref o0), .val (.long key), .second, .val (.int (15 : Int32)), .val (.int sl)] [])) t
          refine XS.iload X13.here hx rfl (hb hby d8_50) rfl ?_
          exact k
        refine OFin.go S17 ?_
        exact finI X13 hx Bd.notSynchronized Bd.returns (hb hby d8_52) hce_ hsl_ (⟨sl, rfl, Nk, e13, hs0, j, by omega, hsl, Or.inl h15, hbe⟩)
      · -- pc 24: not ((kf sl.toNatClampNeg) = (0 : Int64))
        have S18 : ∀ t, Steps p.tables e below (T13.setTop (mkF m 27 #[.val (.ref o0), .val (.long key), .second, .val (.int (15 : Int32)), .val (.int sl)] [])) t → Steps p.tables e below (T13.setTop (mkF m 24 #[.val (.ref o0), .val (.long key), .second, .val (.int (15 : Int32)), .val (.int sl)] [(.int (lcmpW (kf sl.toNatClampNeg) (0 : Int64)))])) t := by
          intro t k
          show Steps p.tables e below (T13.setTop (mkF m 24 #[.val (.ref o0), .val (.long key), .second, .val (.int (15 : Int32)), .val (.int sl)] [(.int (lcmpW (kf sl.toNatClampNeg) (0 : Int64)))])) t
          refine XS.ifNo X13.here hx rfl (hb hby d8_24) rfl (lc_eq_f h15) ?_
          exact k
        refine OFin.go S18 ?_
        have S19 : ∀ t, Steps p.tables e below (T13.setTop (mkF m 28 #[.val (.ref o0), .val (.long key), .second, .val (.int (15 : Int32)), .val (.int sl)] [(.ref o0)])) t → Steps p.tables e below (T13.setTop (mkF m 27 #[.val (.ref o0), .val (.long key), .second, .val (.int (15 : Int32)), .val (.int sl)] [])) t := by
          intro t k
          show Steps p.tables e below (T13.setTop (mkF m 27 #[.val (.ref o0), .val (.long key), .second, .val (.int (15 : Int32)), .val (.int sl)] [])) t
          refine XS.aloadN X13.here hx rfl (hb hby d8_27) rfl rfl ?_
          exact k
        refine OFin.go S19 ?_
        obtain ⟨T20, X20, e20, st20⟩ := getF X13 hx hZ hown (host := "") (Or.inl (hw _ (List.mem_of_getElem? (i := 24) rfl))) Via.refl e13 Fk (g := (mkF m 28 #[.val (.ref o0), .val (.long key), .second, .val (.int (15 : Int32)), .val (.int sl)] [(.ref o0)])) rfl rfl (hb hby d8_28)
        refine OFin.go st20 ?_
        show OFin p e below _ (T20.setTop (mkF m 31 #[.val (.ref o0), .val (.long key), .second, .val (.int (15 : Int32)), .val (.int sl)] [(.ref ka)]))
        have S21 : ∀ t, Steps p.tables e below (T20.setTop (mkF m 36 #[.val (.ref o0), .val (.long key), .second, .val (.int (15 : Int32)), .val (.int sl)] [(.int (lcmpW (kf sl.toNatClampNeg) key))])) t → Steps p.tables e below (T20.setTop (mkF m 31 #[.val (.ref o0), .val (.long key), .second, .val (.int (15 : Int32)), .val (.int sl)] [(.ref ka)])) t := by
          intro t k
          show Steps p.tables e below (T20.setTop (mkF m 31 #[.val (.ref o0), .val (.long key), .second, .val (.int (15 : Int32)), .val (.int sl)] [(.ref ka)])) t
          refine XS.iload X20.here hx rfl (hb hby d8_31) rfl ?_
          show Steps p.tables e below (T20.setTop (mkF m 33 #[.val (.ref o0), .val (.long key), .second, .val (.int (15 : Int32)), .val (.int sl)] [(.int sl), (.ref ka)])) t
          refine rdJ X20 hx hZ e20 Va (i := sl.toNatClampNeg) hs0 rfl (by omega) (x := (.long (kf sl.toNatClampNeg))) rfl (g := (mkF m 33 #[.val (.ref o0), .val (.long key), .second, .val (.int (15 : Int32)), .val (.int sl)] [(.int sl), (.ref ka)])) rfl rfl (hb hby d8_33) ?_
          show Steps p.tables e below (T20.setTop (mkF m 34 #[.val (.ref o0), .val (.long key), .second, .val (.int (15 : Int32)), .val (.int sl)] [(.long (kf sl.toNatClampNeg))])) t
          refine XS.lloadN X20.here hx rfl (hb hby d8_34) rfl ?_
          show Steps p.tables e below (T20.setTop (mkF m 35 #[.val (.ref o0), .val (.long key), .second, .val (.int (15 : Int32)), .val (.int sl)] [(.long key), (.long (kf sl.toNatClampNeg))])) t
          refine XS.lcmp X20.here hx rfl (hb hby d8_35) rfl ?_
          exact k
        refine OFin.go S21 ?_
        by_cases h22 : ((kf sl.toNatClampNeg) = key)
        · -- pc 36: ((kf sl.toNatClampNeg) = key)
          have S23 : ∀ t, Steps p.tables e below (T20.setTop (mkF m 50 #[.val (.ref o0), .val (.long key), .second, .val (.int (15 : Int32)), .val (.int sl)] [])) t → Steps p.tables e below (T20.setTop (mkF m 36 #[.val (.ref o0), .val (.long key), .second, .val (.int (15 : Int32)), .val (.int sl)] [(.int (lcmpW (kf sl.toNatClampNeg) key))])) t := by
            intro t k
            show Steps p.tables e below (T20.setTop (mkF m 36 #[.val (.ref o0), .val (.long key), .second, .val (.int (15 : Int32)), .val (.int sl)] [(.int (lcmpW (kf sl.toNatClampNeg) key))])) t
            refine XS.ifYes X20.here hx rfl (pc0 := 36) (pc' := 50) rfl (hb hby d8_36) rfl (lc_eq_t h22) (by decide) (by decide) ?_
            exact k
          refine OFin.go S23 ?_
          have S24 : ∀ t, Steps p.tables e below (T20.setTop (mkF m 52 #[.val (.ref o0), .val (.long key), .second, .val (.int (15 : Int32)), .val (.int sl)] [(.int sl)])) t → Steps p.tables e below (T20.setTop (mkF m 50 #[.val (.ref o0), .val (.long key), .second, .val (.int (15 : Int32)), .val (.int sl)] [])) t := by
            intro t k
            show Steps p.tables e below (T20.setTop (mkF m 50 #[.val (.ref o0), .val (.long key), .second, .val (.int (15 : Int32)), .val (.int sl)] [])) t
            refine XS.iload X20.here hx rfl (hb hby d8_50) rfl ?_
            exact k
          refine OFin.go S24 ?_
          exact finI X20 hx Bd.notSynchronized Bd.returns (hb hby d8_52) hce_ hsl_ (⟨sl, rfl, Nk, e20, hs0, j, by omega, hsl, Or.inr h22, hbe⟩)
        · -- pc 36: not ((kf sl.toNatClampNeg) = key)
          have S25 : ∀ t, Steps p.tables e below (T20.setTop (mkF m 39 #[.val (.ref o0), .val (.long key), .second, .val (.int (15 : Int32)), .val (.int sl)] [])) t → Steps p.tables e below (T20.setTop (mkF m 36 #[.val (.ref o0), .val (.long key), .second, .val (.int (15 : Int32)), .val (.int sl)] [(.int (lcmpW (kf sl.toNatClampNeg) key))])) t := by
            intro t k
            show Steps p.tables e below (T20.setTop (mkF m 36 #[.val (.ref o0), .val (.long key), .second, .val (.int (15 : Int32)), .val (.int sl)] [(.int (lcmpW (kf sl.toNatClampNeg) key))])) t
            refine XS.ifNo X20.here hx rfl (hb hby d8_36) rfl (lc_eq_f h22) ?_
            exact k
          refine OFin.go S25 ?_
          have S26 : ∀ t, Steps p.tables e below (T20.setTop (mkF m 15 #[.val (.ref o0), .val (.long key), .second, .val (.int (15 : Int32)), .val (.int ((sl + (1 : Int32)) &&& (15 : Int32)))] [])) t → Steps p.tables e below (T20.setTop (mkF m 39 #[.val (.ref o0), .val (.long key), .second, .val (.int (15 : Int32)), .val (.int sl)] [])) t := by
            intro t k
            show Steps p.tables e below (T20.setTop (mkF m 39 #[.val (.ref o0), .val (.long key), .second, .val (.int (15 : Int32)), .val (.int sl)] [])) t
            refine XS.iload X20.here hx rfl (hb hby d8_39) rfl ?_
            show Steps p.tables e below (T20.setTop (mkF m 41 #[.val (.ref o0), .val (.long key), .second, .val (.int (15 : Int32)), .val (.int sl)] [(.int sl)])) t
            refine XS.iconst X20.here hx rfl (hb hby d8_41) ?_
            show Steps p.tables e below (T20.setTop (mkF m 42 #[.val (.ref o0), .val (.long key), .second, .val (.int (15 : Int32)), .val (.int sl)] [(.int (1 : Int32)), (.int sl)])) t
            refine XS.iadd X20.here hx rfl (hb hby d8_42) rfl ?_
            show Steps p.tables e below (T20.setTop (mkF m 43 #[.val (.ref o0), .val (.long key), .second, .val (.int (15 : Int32)), .val (.int sl)] [(.int (sl + (1 : Int32)))])) t
            refine XS.iloadN X20.here hx rfl (hb hby d8_43) rfl ?_
            show Steps p.tables e below (T20.setTop (mkF m 44 #[.val (.ref o0), .val (.long key), .second, .val (.int (15 : Int32)), .val (.int sl)] [(.int (15 : Int32)), (.int (sl + (1 : Int32)))])) t
            refine XS.iand X20.here hx rfl (hb hby d8_44) rfl ?_
            show Steps p.tables e below (T20.setTop (mkF m 45 #[.val (.ref o0), .val (.long key), .second, .val (.int (15 : Int32)), .val (.int sl)] [(.int ((sl + (1 : Int32)) &&& (15 : Int32)))])) t
            refine XS.istore X20.here hx rfl (hb hby d8_45) rfl (l' := #[.val (.ref o0), .val (.long key), .second, .val (.int (15 : Int32)), .val (.int ((sl + (1 : Int32)) &&& (15 : Int32)))]) rfl ?_
            show Steps p.tables e below (T20.setTop (mkF m 47 #[.val (.ref o0), .val (.long key), .second, .val (.int (15 : Int32)), .val (.int ((sl + (1 : Int32)) &&& (15 : Int32)))] [])) t
            refine XS.goto X20.here hx rfl (pc0 := 47) (pc' := 15) rfl (hb hby d8_47) (by decide) (by decide) ?_
            exact k
          refine OFin.go S26 ?_
          exact ih T20 _ _ _ X20 e20 Nk (by first | assumption | decide) (by first | assumption | decide) ((sl + (1 : Int32)) &&& (15 : Int32)) ⟨j + 1, by omega, (own_nx hs0 (by omega)).1, by rw [(own_nx hs0 (by omega)).2]; omega, fun d hd => by
      by_cases q : d = j
      · subst q; rw [← hsl]; exact ⟨h15, h22⟩
      · exact hbe d (by omega)⟩ 
  exact LOOP6 dz _ _ _ _ X4 e4 N4 (by decide) (by decide) (hmI key) ⟨0, by omega, (hm_spec key).1, by show hm key = _; have := hm_lt key; omega, fun d hd => absurd hd (by omega)⟩
theorem own_updl (kf : Nat → Int64) (s : Nat) (k : Int64) (i : Nat) : upd (fun i => Value.long (kf i)) s (.long k) i = .long (upd kf s k i) := by
  unfold upd; dsimp only; split <;> rfl
theorem ef_rm10_n (m : MethodId) (o0 : Addr) (u1 : Int32) (key : Int64) (val : Int64) : entryFrame m #[(.ref o0), (.int u1), (.long key), (.long val)] 6 = mkF m 0 #[.val (.ref o0), .val (.int u1), .val (.long key), .second, .val (.long val), .second] [] := by first | (simp [entryFrame, mkF, argsToLocals, Value.category]; done) | rfl
def Q_rm10_n (Z : State) (o0 : Addr) (u1 : Int32) (key : Int64) (val : Int64) (ka : Addr) (kf vf : Nat → Int64) (tk : Int32) (h0 : Heap) (n0 : Nat) (v : Option Value) (h : Heap) (L : List Loc) : Prop := v = none ∧ Fr n0 L ∧ Keep h0 h [o0, ka] ∧ Exa Z h o0 "com/example/clockwrap/clockwrap/store/LongTable$Part" ∧ Fld Z h o0 "com/example/clockwrap/clockwrap/store/LongTable$Part" "keys" "[J" (.ref ka) ∧ Fld Z h o0 "com/example/clockwrap/clockwrap/store/LongTable$Part" "values" "[J" .null ∧ Fld Z h o0 "com/example/clockwrap/clockwrap/store/LongTable$Part" "shift" "I" (.int (60 : Int32)) ∧ Fld Z h o0 "com/example/clockwrap/clockwrap/store/LongTable$Part" "taken" "I" (.int (tk + (1 : Int32))) ∧ Ara Z h ka .long 16 (fun i => .long ((upd kf u1.toNatClampNeg key) i))
theorem d10_0 : decode prog_33_method_7_code 0 = .ok (.aload_n 0, 1) := by decide +kernel
theorem d10_1 : decode prog_33_method_7_code 1 = .ok (.getfield 11, 3) := by decide +kernel
theorem d10_4 : decode prog_33_method_7_code 4 = .ok (.iload_n 1, 1) := by decide +kernel
theorem d10_5 : decode prog_33_method_7_code 5 = .ok (.lload_n 2, 1) := by decide +kernel
theorem d10_6 : decode prog_33_method_7_code 6 = .ok (.lastore, 1) := by decide +kernel
theorem d10_7 : decode prog_33_method_7_code 7 = .ok (.aload_n 0, 1) := by decide +kernel
theorem d10_8 : decode prog_33_method_7_code 8 = .ok (.getfield 35, 3) := by decide +kernel
theorem d10_11 : decode prog_33_method_7_code 11 = .ok (.ifnull 11, 3) := by decide +kernel
theorem d10_22 : decode prog_33_method_7_code 22 = .ok (.aload_n 0, 1) := by decide +kernel
theorem d10_23 : decode prog_33_method_7_code 23 = .ok (.dup, 1) := by decide +kernel
theorem d10_24 : decode prog_33_method_7_code 24 = .ok (.getfield 42, 3) := by decide +kernel
theorem d10_27 : decode prog_33_method_7_code 27 = .ok (.iconst 1, 1) := by decide +kernel
theorem d10_28 : decode prog_33_method_7_code 28 = .ok (.iadd, 1) := by decide +kernel
theorem d10_29 : decode prog_33_method_7_code 29 = .ok (.putfield 42, 3) := by decide +kernel
theorem d10_32 : decode prog_33_method_7_code 32 = .ok (.aload_n 0, 1) := by decide +kernel
theorem d10_33 : decode prog_33_method_7_code 33 = .ok (.getfield 42, 3) := by decide +kernel
theorem d10_36 : decode prog_33_method_7_code 36 = .ok (.aload_n 0, 1) := by decide +kernel
theorem d10_37 : decode prog_33_method_7_code 37 = .ok (.getfield 11, 3) := by decide +kernel
theorem d10_40 : decode prog_33_method_7_code 40 = .ok (.arraylength, 1) := by decide +kernel
theorem d10_41 : decode prog_33_method_7_code 41 = .ok (.iconst 4, 1) := by decide +kernel
theorem d10_42 : decode prog_33_method_7_code 42 = .ok (.idiv, 1) := by decide +kernel
theorem d10_43 : decode prog_33_method_7_code 43 = .ok (.iconst 3, 1) := by decide +kernel
theorem d10_44 : decode prog_33_method_7_code 44 = .ok (.imul, 1) := by decide +kernel
theorem d10_45 : decode prog_33_method_7_code 45 = .ok (.if_icmp .le 7, 3) := by decide +kernel
theorem d10_52 : decode prog_33_method_7_code 52 = .ok (.return_, 1) := by decide +kernel
set_option maxRecDepth 65536 in
set_option maxHeartbeats 40000000 in
theorem rm10_n (l : Launch) (Z : State) (a0 : Array Value) (hw : ∀ d ∈ tables_1, d.before a0 Z = true) (ws : List Jvm.Cond) (o0 : Addr) (u1 : Int32) (key : Int64) (val : Int64) (ka : Addr) (kf vf : Nat → Int64) (tk : Int32) (h0 : Heap) (n0 : Nat) (Z0 : n0 ≤ h0.size) (geo : n0 ≤ o0) (gek : n0 ≤ ka) (nok : o0 ≠ ka) (E0 : Exa Z h0 o0 "com/example/clockwrap/clockwrap/store/LongTable$Part") (Fk : Fld Z h0 o0 "com/example/clockwrap/clockwrap/store/LongTable$Part" "keys" "[J" (.ref ka)) (Fv : Fld Z h0 o0 "com/example/clockwrap/clockwrap/store/LongTable$Part" "values" "[J" .null) (Fs : Fld Z h0 o0 "com/example/clockwrap/clockwrap/store/LongTable$Part" "shift" "I" (.int (60 : Int32))) (Ft : Fld Z h0 o0 "com/example/clockwrap/clockwrap/store/LongTable$Part" "taken" "I" (.int tk)) (Va : Ara Z h0 ka .long 16 (fun i => .long (kf i))) (hu0 : ¬ u1 < 0) (hu1 : u1.toNatClampNeg < 16) (ht : ¬ ((12 : Int32) < (tk + (1 : Int32)))) :
    MetFree l (⟨"com/example/clockwrap/clockwrap/store/LongTable$Part", "place", "(IJJ)V"⟩ : MethodName) (head1 (Jvm.Cond.code (⟨"com/example/clockwrap/clockwrap/store/LongTable$Part", "place", "(IJJ)V"⟩ : MethodName) prog_33_method_7_code 6 none :: ws) ({ frames := 0, cells := 0, slots := 0, locals := 0 } : Room)) (fun a U => a = #[(.ref o0), (.int u1), (.long key), (.long val)] ∧ Z.Warmed39 U.vm ∧ U.heap = h0) (fun _ _ _ _ _ => True) (fun _ U o U' => ∃ v L, o = .returned v ∧ (Q_rm10_n Z o0 u1 key val ka kf vf tk h0 n0) v U'.heap L ∧ FrameEnd U o U' L ({ frames := 0, cells := 0, slots := 0, locals := 0 } : Room).cells ({ frames := 0, cells := 0, slots := 0, locals := 0 } : Room).slots) := by
  refine MetFree.of_bodySF (plainFor_of_name pn_1) hisR ?_
  intro p e s m args below meth c s₁ Bd hml0 hP hK
  obtain ⟨rfl, hZ, hh⟩ := hP
  have hx := Bd.exec
  have hby := Bd.bytes
  have hml : c.maxLocals = 6 := hml0
  have hown : s.vm.findClass "com/example/clockwrap/clockwrap/store/LongTable$Part" = some m.cls := findClass_of_methodNamed Bd.named
  have hnm := (name_of_methodNamed Bd.named Bd.method).1
  have X0 : Stand p l e ({ frames := 0, cells := 0, slots := 0, locals := 0 } : Room) s m #[(.ref o0), (.int u1), (.long key), (.long val)] below meth c s₁ [] 0 0 := Stand.of_body Bd
  have e0 : s₁.heap = h0 := by rw [← hh, Bd.state]; rfl
  have N0 := Fr.nil n0
  show OFin p e below (ORet (Q_rm10_n Z o0 u1 key val ka kf vf tk h0 n0) s ({ frames := 0, cells := 0, slots := 0, locals := 0 } : Room).cells ({ frames := 0, cells := 0, slots := 0, locals := 0 } : Room).slots) (s₁.setTop (entryFrame m #[(.ref o0), (.int u1), (.long key), (.long val)] 6))
  refine OFin.go (fun t k => castTop (ef_rm10_n m o0 u1 key val) k) ?_
  have K0 := Keep.refl h0 [o0, ka]
  show OFin p e below (ORet (Q_rm10_n Z o0 u1 key val ka kf vf tk h0 n0) s ({ frames := 0, cells := 0, slots := 0, locals := 0 } : Room).cells ({ frames := 0, cells := 0, slots := 0, locals := 0 } : Room).slots) (s₁.setTop (mkF m 0 #[.val (.ref o0), .val (.int u1), .val (.long key), .second, .val (.long val), .second] []))
  have S1 : ∀ t, Steps p.tables e below (s₁.setTop (mkF m 1 #[.val (.ref o0), .val (.int u1), .val (.long key), .second, .val (.long val), .second] [(.ref o0)])) t → Steps p.tables e below (s₁.setTop (mkF m 0 #[.val (.ref o0), .val (.int u1), .val (.long key), .second, .val (.long val), .second] [])) t := by
    intro t k
    show Steps p.tables e below (s₁.setTop (mkF m 0 #[.val (.ref o0), .val (.int u1), .val (.long key), .second, .val (.long val), .second] [])) t
    refine XS.aloadN X0.here hx rfl (hb hby d10_0) rfl rfl ?_
    exact k
  refine OFin.go S1 ?_
  obtain ⟨T2, X2, e2, st2⟩ := getF X0 hx hZ hown (host := "") (Or.inl (hw _ (List.mem_of_getElem? (i := 24) rfl))) Via.refl e0 Fk (g := (mkF m 1 #[.val (.ref o0), .val (.int u1), .val (.long key), .second, .val (.long val), .second] [(.ref o0)])) rfl rfl (hb hby d10_1)
  refine OFin.go st2 ?_
  show OFin p e below _ (T2.setTop (mkF m 4 #[.val (.ref o0), .val (.int u1), .val (.long key), .second, .val (.long val), .second] [(.ref ka)]))
  have S3 : ∀ t, Steps p.tables e below (T2.setTop (mkF m 6 #[.val (.ref o0), .val (.int u1), .val (.long key), .second, .val (.long val), .second] [(.long key), (.int u1), (.ref ka)])) t → Steps p.tables e below (T2.setTop (mkF m 4 #[.val (.ref o0), .val (.int u1), .val (.long key), .second, .val (.long val), .second] [(.ref ka)])) t := by
    intro t k
    show Steps p.tables e below (T2.setTop (mkF m 4 #[.val (.ref o0), .val (.int u1), .val (.long key), .second, .val (.long val), .second] [(.ref ka)])) t
    refine XS.iloadN X2.here hx rfl (hb hby d10_4) rfl ?_
    show Steps p.tables e below (T2.setTop (mkF m 5 #[.val (.ref o0), .val (.int u1), .val (.long key), .second, .val (.long val), .second] [(.int u1), (.ref ka)])) t
    refine XS.lloadN X2.here hx rfl (hb hby d10_5) rfl ?_
    exact k
  refine OFin.go S3 ?_
  obtain ⟨T4, h4, X4, e4, W4, st4⟩ := wrJ X2 hx hZ e2 Va (i := u1.toNatClampNeg) hu0 rfl hu1 (g := (mkF m 6 #[.val (.ref o0), .val (.int u1), .val (.long key), .second, .val (.long val), .second] [(.long key), (.int u1), (.ref ka)])) rfl rfl (hb hby d10_6)
  have V4 := Va.set W4
  have N4 := Fr.snoc X4 N0 gek
  have Z4 : n0 ≤ h4.size := Nat.le_trans Z0 (wr_le W4)
  have K4 := Keep.wr K0 W4 (Or.inl (List.mem_of_getElem? (i := 1) rfl))
  refine OFin.go st4 ?_
  show OFin p e below _ (T4.setTop (mkF m 7 #[.val (.ref o0), .val (.int u1), .val (.long key), .second, .val (.long val), .second] []))
  have S5 : ∀ t, Steps p.tables e below (T4.setTop (mkF m 8 #[.val (.ref o0), .val (.int u1), .val (.long key), .second, .val (.long val), .second] [(.ref o0)])) t → Steps p.tables e below (T4.setTop (mkF m 7 #[.val (.ref o0), .val (.int u1), .val (.long key), .second, .val (.long val), .second] [])) t := by
    intro t k
    show Steps p.tables e below (T4.setTop (mkF m 7 #[.val (.ref o0), .val (.int u1), .val (.long key), .second, .val (.long val), .second] [])) t
    refine XS.aloadN X4.here hx rfl (hb hby d10_7) rfl rfl ?_
    exact k
  refine OFin.go S5 ?_
  have F6 := Fv.other W4 (Or.inl nok)
  obtain ⟨T7, X7, e7, st7⟩ := getF X4 hx hZ hown (host := "") (Or.inl (hw _ (List.mem_of_getElem? (i := 62) rfl))) Via.refl e4 F6 (g := (mkF m 8 #[.val (.ref o0), .val (.int u1), .val (.long key), .second, .val (.long val), .second] [(.ref o0)])) rfl rfl (hb hby d10_8)
  refine OFin.go st7 ?_
  show OFin p e below _ (T7.setTop (mkF m 11 #[.val (.ref o0), .val (.int u1), .val (.long key), .second, .val (.long val), .second] [.null]))
  refine OFin.go (fun t k => ?_ : ∀ t, Steps p.tables e below (T7.setTop (mkF m 22 #[.val (.ref o0), .val (.int u1), .val (.long key), .second, .val (.long val), .second] [])) t → Steps p.tables e below (T7.setTop (mkF m 11 #[.val (.ref o0), .val (.int u1), .val (.long key), .second, .val (.long val), .second] [.null])) t) ?_
  · show Steps p.tables e below (T7.setTop (mkF m 11 #[.val (.ref o0), .val (.int u1), .val (.long key), .second, .val (.long val), .second] [.null])) t
    refine XS.ifnullYes X7.here hx rfl (pc0 := 11) (pc' := 22) rfl (hb hby d10_11) rfl (by decide) (by decide) ?_
    exact k
  have S8 : ∀ t, Steps p.tables e below (T7.setTop (mkF m 24 #[.val (.ref o0), .val (.int u1), .val (.long key), .second, .val (.long val), .second] [(.ref o0), (.ref o0)])) t → Steps p.tables e below (T7.setTop (mkF m 22 #[.val (.ref o0), .val (.int u1), .val (.long key), .second, .val (.long val), .second] [])) t := by
    intro t k
    show Steps p.tables e below (T7.setTop (mkF m 22 #[.val (.ref o0), .val (.int u1), .val (.long key), .second, .val (.long val), .second] [])) t
    refine XS.aloadN X7.here hx rfl (hb hby d10_22) rfl rfl ?_
    show Steps p.tables e below (T7.setTop (mkF m 23 #[.val (.ref o0), .val (.int u1), .val (.long key), .second, .val (.long val), .second] [(.ref o0)])) t
    refine XS.dup X7.here hx rfl (hb hby d10_23) rfl rfl ?_
    exact k
  refine OFin.go S8 ?_
  have F9 := Ft.other W4 (Or.inl nok)
  obtain ⟨T10, X10, e10, st10⟩ := getF X7 hx hZ hown (host := "") (Or.inl (hw _ (List.mem_of_getElem? (i := 64) rfl))) Via.refl e7 F9 (g := (mkF m 24 #[.val (.ref o0), .val (.int u1), .val (.long key), .second, .val (.long val), .second] [(.ref o0), (.ref o0)])) rfl rfl (hb hby d10_24)
  refine OFin.go st10 ?_
  show OFin p e below _ (T10.setTop (mkF m 27 #[.val (.ref o0), .val (.int u1), .val (.long key), .second, .val (.long val), .second] [(.int tk), (.ref o0)]))
  have S11 : ∀ t, Steps p.tables e below (T10.setTop (mkF m 29 #[.val (.ref o0), .val (.int u1), .val (.long key), .second, .val (.long val), .second] [(.int (tk + (1 : Int32))), (.ref o0)])) t → Steps p.tables e below (T10.setTop (mkF m 27 #[.val (.ref o0), .val (.int u1), .val (.long key), .second, .val (.long val), .second] [(.int tk), (.ref o0)])) t := by
    intro t k
    show Steps p.tables e below (T10.setTop (mkF m 27 #[.val (.ref o0), .val (.int u1), .val (.long key), .second, .val (.long val), .second] [(.int tk), (.ref o0)])) t
    refine XS.iconst X10.here hx rfl (hb hby d10_27) ?_
    show Steps p.tables e below (T10.setTop (mkF m 28 #[.val (.ref o0), .val (.int u1), .val (.long key), .second, .val (.long val), .second] [(.int (1 : Int32)), (.int tk), (.ref o0)])) t
    refine XS.iadd X10.here hx rfl (hb hby d10_28) rfl ?_
    exact k
  refine OFin.go S11 ?_
  have F12 := E0.wr W4
  obtain ⟨T13, h13, X13, e13, W13, st13⟩ := putF X10 hx hZ hown (host := "") (Or.inl (hw _ (List.mem_of_getElem? (i := 64) rfl))) Via.refl e10 F9 F12 (Or.inl (hw _ (List.mem_of_getElem? (i := 65) rfl))) (hw _ (List.mem_of_getElem? (i := 17) rfl)) (ty := .int) (by decide) rfl rfl (g := (mkF m 29 #[.val (.ref o0), .val (.int u1), .val (.long key), .second, .val (.long val), .second] [(.int (tk + (1 : Int32))), (.ref o0)])) rfl rfl (hb hby d10_29)
  have Fw13 := F9.same W13
  have N13 := Fr.snoc X13 N4 geo
  have Z13 : n0 ≤ h13.size := Nat.le_trans Z4 (wr_le W13)
  have K13 := Keep.wr K4 W13 (Or.inl (List.mem_of_getElem? (i := 0) rfl))
  refine OFin.go st13 ?_
  show OFin p e below _ (T13.setTop (mkF m 32 #[.val (.ref o0), .val (.int u1), .val (.long key), .second, .val (.long val), .second] []))
  have S14 : ∀ t, Steps p.tables e below (T13.setTop (mkF m 33 #[.val (.ref o0), .val (.int u1), .val (.long key), .second, .val (.long val), .second] [(.ref o0)])) t → Steps p.tables e below (T13.setTop (mkF m 32 #[.val (.ref o0), .val (.int u1), .val (.long key), .second, .val (.long val), .second] [])) t := by
    intro t k
    show Steps p.tables e below (T13.setTop (mkF m 32 #[.val (.ref o0), .val (.int u1), .val (.long key), .second, .val (.long val), .second] [])) t
    refine XS.aloadN X13.here hx rfl (hb hby d10_32) rfl rfl ?_
    exact k
  refine OFin.go S14 ?_
  obtain ⟨T15, X15, e15, st15⟩ := getF X13 hx hZ hown (host := "") (Or.inl (hw _ (List.mem_of_getElem? (i := 64) rfl))) Via.refl e13 Fw13 (g := (mkF m 33 #[.val (.ref o0), .val (.int u1), .val (.long key), .second, .val (.long val), .second] [(.ref o0)])) rfl rfl (hb hby d10_33)
  refine OFin.go st15 ?_
  show OFin p e below _ (T15.setTop (mkF m 36 #[.val (.ref o0), .val (.int u1), .val (.long key), .second, .val (.long val), .second] [(.int (tk + (1 : Int32)))]))
  have S16 : ∀ t, Steps p.tables e below (T15.setTop (mkF m 37 #[.val (.ref o0), .val (.int u1), .val (.long key), .second, .val (.long val), .second] [(.ref o0), (.int (tk + (1 : Int32)))])) t → Steps p.tables e below (T15.setTop (mkF m 36 #[.val (.ref o0), .val (.int u1), .val (.long key), .second, .val (.long val), .second] [(.int (tk + (1 : Int32)))])) t := by
    intro t k
    show Steps p.tables e below (T15.setTop (mkF m 36 #[.val (.ref o0), .val (.int u1), .val (.long key), .second, .val (.long val), .second] [(.int (tk + (1 : Int32)))])) t
    refine XS.aloadN X15.here hx rfl (hb hby d10_36) rfl rfl ?_
    exact k
  refine OFin.go S16 ?_
  have F17 := Fk.other W4 (Or.inl nok)
  have F18 := F17.other W13 (Or.inr (slot_ne (Or.inl (hw _ (List.mem_of_getElem? (i := 25) rfl))) (Or.inl (hw _ (List.mem_of_getElem? (i := 65) rfl))) (by decide) (t := (.array .long)) (t' := .int) (by decide) (by decide)))
  obtain ⟨T19, X19, e19, st19⟩ := getF X15 hx hZ hown (host := "") (Or.inl (hw _ (List.mem_of_getElem? (i := 24) rfl))) Via.refl e15 F18 (g := (mkF m 37 #[.val (.ref o0), .val (.int u1), .val (.long key), .second, .val (.long val), .second] [(.ref o0), (.int (tk + (1 : Int32)))])) rfl rfl (hb hby d10_37)
  refine OFin.go st19 ?_
  show OFin p e below _ (T19.setTop (mkF m 40 #[.val (.ref o0), .val (.int u1), .val (.long key), .second, .val (.long val), .second] [(.ref ka), (.int (tk + (1 : Int32)))]))
  have F20 := V4.other W13 (Ne.symm nok)
  have S21 : ∀ t, Steps p.tables e below (T19.setTop (mkF m 45 #[.val (.ref o0), .val (.int u1), .val (.long key), .second, .val (.long val), .second] [(.int (12 : Int32)), (.int (tk + (1 : Int32)))])) t → Steps p.tables e below (T19.setTop (mkF m 40 #[.val (.ref o0), .val (.int u1), .val (.long key), .second, .val (.long val), .second] [(.ref ka), (.int (tk + (1 : Int32)))])) t := by
    intro t k
    show Steps p.tables e below (T19.setTop (mkF m 40 #[.val (.ref o0), .val (.int u1), .val (.long key), .second, .val (.long val), .second] [(.ref ka), (.int (tk + (1 : Int32)))])) t
    refine alen X19 hx hZ e19 F20 (z := (16 : Int32)) rfl (g := (mkF m 40 #[.val (.ref o0), .val (.int u1), .val (.long key), .second, .val (.long val), .second] [(.ref ka), (.int (tk + (1 : Int32)))])) rfl rfl (hb hby d10_40) ?_
    show Steps p.tables e below (T19.setTop (mkF m 41 #[.val (.ref o0), .val (.int u1), .val (.long key), .second, .val (.long val), .second] [(.int (16 : Int32)), (.int (tk + (1 : Int32)))])) t
    refine XS.iconst X19.here hx rfl (hb hby d10_41) ?_
    show Steps p.tables e below (T19.setTop (mkF m 42 #[.val (.ref o0), .val (.int u1), .val (.long key), .second, .val (.long val), .second] [(.int (4 : Int32)), (.int (16 : Int32)), (.int (tk + (1 : Int32)))])) t
    refine XS.idiv X19.here hx rfl (hb hby d10_42) rfl (by decide) ?_
    show Steps p.tables e below (T19.setTop (mkF m 43 #[.val (.ref o0), .val (.int u1), .val (.long key), .second, .val (.long val), .second] [(.int (4 : Int32)), (.int (tk + (1 : Int32)))])) t
    refine XS.iconst X19.here hx rfl (hb hby d10_43) ?_
    show Steps p.tables e below (T19.setTop (mkF m 44 #[.val (.ref o0), .val (.int u1), .val (.long key), .second, .val (.long val), .second] [(.int (3 : Int32)), (.int (4 : Int32)), (.int (tk + (1 : Int32)))])) t
    refine XS.imul X19.here hx rfl (hb hby d10_44) rfl ?_
    exact k
  refine OFin.go S21 ?_
  have S22 : ∀ t, Steps p.tables e below (T19.setTop (mkF m 52 #[.val (.ref o0), .val (.int u1), .val (.long key), .second, .val (.long val), .second] [])) t → Steps p.tables e below (T19.setTop (mkF m 45 #[.val (.ref o0), .val (.int u1), .val (.long key), .second, .val (.long val), .second] [(.int (12 : Int32)), (.int (tk + (1 : Int32)))])) t := by
    intro t k
    show Steps p.tables e below (T19.setTop (mkF m 45 #[.val (.ref o0), .val (.int u1), .val (.long key), .second, .val (.long val), .second] [(.int (12 : Int32)), (.int (tk + (1 : Int32)))])) t
    refine XS.icmpYes X19.here hx rfl (pc0 := 45) (pc' := 52) rfl (hb hby d10_45) rfl (flt ht).2.2.2 (by decide) (by decide) ?_
    exact k
  refine OFin.go S22 ?_
  have F23 := F12.wr W13
  have F24 := F6.other W13 (Or.inr (slot_ne (Or.inl (hw _ (List.mem_of_getElem? (i := 63) rfl))) (Or.inl (hw _ (List.mem_of_getElem? (i := 65) rfl))) (by decide) (t := (.array .long)) (t' := .int) (by decide) (by decide)))
  have F25 := Fs.other W4 (Or.inl nok)
  have F26 := F25.other W13 (Or.inr (slot_ne (Or.inl (hw _ (List.mem_of_getElem? (i := 32) rfl))) (Or.inl (hw _ (List.mem_of_getElem? (i := 65) rfl))) (by decide) (t := .int) (t' := .int) (by decide) (by decide)))
  exact finV X19 hx Bd.notSynchronized Bd.returns (hb hby d10_52) (by decide) (by decide) (by rw [e19]; exact ⟨rfl, N13, K13, F23, F18, F24, F26, Fw13, F20.congr (fun i _ => own_updl _ _ _ i)⟩)
theorem ef_rm12 (m : MethodId) (o0 : Addr) (key : Int64) : entryFrame m #[(.ref o0), (.long key)] 3 = mkF m 0 #[.val (.ref o0), .val (.long key), .second] [] := by first | (simp [entryFrame, mkF, argsToLocals, Value.category]; done) | rfl
def Q_rm12 (Z : State) (o0 : Addr) (key : Int64) (ka : Addr) (kf vf : Nat → Int64) (tk : Int32) (mm : Nat) (h0 : Heap) (n0 : Nat) (v : Option Value) (h : Heap) (L : List Loc) : Prop := ∃ b : Int32, v = some (.int b) ∧ Fr n0 L ∧ h = h0 ∧ (b = 1 ∨ b = 0) ∧ (b = 1 ↔ ∃ u, u < 16 ∧ kf u = key)
theorem d12_0 : decode prog_33_method_2_code 0 = .ok (.aload_n 0, 1) := by decide +kernel
theorem d12_1 : decode prog_33_method_2_code 1 = .ok (.getfield 11, 3) := by decide +kernel
theorem d12_4 : decode prog_33_method_2_code 4 = .ok (.aload_n 0, 1) := by decide +kernel
theorem d12_5 : decode prog_33_method_2_code 5 = .ok (.lload_n 1, 1) := by decide +kernel
theorem d12_6 : decode prog_33_method_2_code 6 = .ok (.invokevirtual 27, 3) := by decide +kernel
theorem d12_9 : decode prog_33_method_2_code 9 = .ok (.laload, 1) := by decide +kernel
theorem d12_10 : decode prog_33_method_2_code 10 = .ok (.lload_n 1, 1) := by decide +kernel
theorem d12_11 : decode prog_33_method_2_code 11 = .ok (.lcmp, 1) := by decide +kernel
theorem d12_12 : decode prog_33_method_2_code 12 = .ok (.ifCond .ne 7, 3) := by decide +kernel
theorem d12_15 : decode prog_33_method_2_code 15 = .ok (.iconst 1, 1) := by decide +kernel
theorem d12_16 : decode prog_33_method_2_code 16 = .ok (.goto 4, 3) := by decide +kernel
theorem d12_19 : decode prog_33_method_2_code 19 = .ok (.iconst 0, 1) := by decide +kernel
theorem d12_20 : decode prog_33_method_2_code 20 = .ok (.ireturn, 1) := by decide +kernel
set_option maxRecDepth 65536 in
set_option maxHeartbeats 40000000 in
theorem rm12 (l : Launch) (Z : State) (a0 : Array Value) (hw : ∀ d ∈ tables_1, d.before a0 Z = true) (ws : List Jvm.Cond) (o0 : Addr) (key : Int64) (ka : Addr) (kf vf : Nat → Int64) (tk : Int32) (mm : Nat) (h0 : Heap) (n0 : Nat) (Z0 : n0 ≤ h0.size) (geo : n0 ≤ o0) (gek : n0 ≤ ka) (nok : o0 ≠ ka) (E0 : Exa Z h0 o0 "com/example/clockwrap/clockwrap/store/LongTable$Part") (Fk : Fld Z h0 o0 "com/example/clockwrap/clockwrap/store/LongTable$Part" "keys" "[J" (.ref ka)) (Fv : Fld Z h0 o0 "com/example/clockwrap/clockwrap/store/LongTable$Part" "values" "[J" .null) (Fs : Fld Z h0 o0 "com/example/clockwrap/clockwrap/store/LongTable$Part" "shift" "I" (.int (60 : Int32))) (Ft : Fld Z h0 o0 "com/example/clockwrap/clockwrap/store/LongTable$Part" "taken" "I" (.int tk)) (Va : Ara Z h0 ka .long 16 (fun i => .long (kf i))) (hP : PI hm kf vf tk mm) (hm10 : mm < 10) (hk : key ≠ 0) :
    MetFree l (⟨"com/example/clockwrap/clockwrap/store/LongTable$Part", "contains", "(J)Z"⟩ : MethodName) (head1 (Jvm.Cond.code (⟨"com/example/clockwrap/clockwrap/store/LongTable$Part", "contains", "(J)Z"⟩ : MethodName) prog_33_method_2_code 3 (some .boolean) :: ws) ({ frames := 2, cells := 0, slots := 0, locals := 40 } : Room)) (fun a U => a = #[(.ref o0), (.long key)] ∧ Z.Warmed39 U.vm ∧ U.heap = h0) (fun _ _ _ _ _ => True) (fun _ U o U' => ∃ v L, o = .returned v ∧ (Q_rm12 Z o0 key ka kf vf tk mm h0 n0) v U'.heap L ∧ FrameEnd U o U' L ({ frames := 2, cells := 0, slots := 0, locals := 40 } : Room).cells ({ frames := 2, cells := 0, slots := 0, locals := 40 } : Room).slots) := by
  refine MetFree.of_bodySF (plainFor_of_name pn_1) hisR ?_
  intro p e s m args below meth c s₁ Bd hml0 hP hK
  obtain ⟨rfl, hZ, hh⟩ := hP
  have hx := Bd.exec
  have hby := Bd.bytes
  have hml : c.maxLocals = 3 := hml0
  have hown : s.vm.findClass "com/example/clockwrap/clockwrap/store/LongTable$Part" = some m.cls := findClass_of_methodNamed Bd.named
  have hnm := (name_of_methodNamed Bd.named Bd.method).1
  have X0 : Stand p l e ({ frames := 2, cells := 0, slots := 0, locals := 40 } : Room) s m #[(.ref o0), (.long key)] below meth c s₁ [] 0 0 := Stand.of_body Bd
  have e0 : s₁.heap = h0 := by rw [← hh, Bd.state]; rfl
  have N0 := Fr.nil n0
  show OFin p e below (ORet (Q_rm12 Z o0 key ka kf vf tk mm h0 n0) s ({ frames := 2, cells := 0, slots := 0, locals := 40 } : Room).cells ({ frames := 2, cells := 0, slots := 0, locals := 40 } : Room).slots) (s₁.setTop (entryFrame m #[(.ref o0), (.long key)] 3))
  refine OFin.go (fun t k => castTop (ef_rm12 m o0 key) k) ?_
  have K0 := Keep.refl h0 [o0, ka]
  show OFin p e below (ORet (Q_rm12 Z o0 key ka kf vf tk mm h0 n0) s ({ frames := 2, cells := 0, slots := 0, locals := 40 } : Room).cells ({ frames := 2, cells := 0, slots := 0, locals := 40 } : Room).slots) (s₁.setTop (mkF m 0 #[.val (.ref o0), .val (.long key), .second] []))
  have S1 : ∀ t, Steps p.tables e below (s₁.setTop (mkF m 1 #[.val (.ref o0), .val (.long key), .second] [(.ref o0)])) t → Steps p.tables e below (s₁.setTop (mkF m 0 #[.val (.ref o0), .val (.long key), .second] [])) t := by
    intro t k
    show Steps p.tables e below (s₁.setTop (mkF m 0 #[.val (.ref o0), .val (.long key), .second] [])) t
    refine XS.aloadN X0.here hx rfl (hb hby d12_0) rfl rfl ?_
    exact k
  refine OFin.go S1 ?_
  obtain ⟨T2, X2, e2, st2⟩ := getF X0 hx hZ hown (host := "") (Or.inl (hw _ (List.mem_of_getElem? (i := 24) rfl))) Via.refl e0 Fk (g := (mkF m 1 #[.val (.ref o0), .val (.long key), .second] [(.ref o0)])) rfl rfl (hb hby d12_1)
  refine OFin.go st2 ?_
  show OFin p e below _ (T2.setTop (mkF m 4 #[.val (.ref o0), .val (.long key), .second] [(.ref ka)]))
  have S3 : ∀ t, Steps p.tables e below (T2.setTop (mkF m 6 #[.val (.ref o0), .val (.long key), .second] [(.long key), (.ref o0), (.ref ka)])) t → Steps p.tables e below (T2.setTop (mkF m 4 #[.val (.ref o0), .val (.long key), .second] [(.ref ka)])) t := by
    intro t k
    show Steps p.tables e below (T2.setTop (mkF m 4 #[.val (.ref o0), .val (.long key), .second] [(.ref ka)])) t
    refine XS.aloadN X2.here hx rfl (hb hby d12_4) rfl rfl ?_
    show Steps p.tables e below (T2.setTop (mkF m 5 #[.val (.ref o0), .val (.long key), .second] [(.ref o0), (.ref ka)])) t
    refine XS.lloadN X2.here hx rfl (hb hby d12_5) rfl ?_
    exact k
  refine OFin.go S3 ?_
  obtain ⟨_, T4, Lc4, X4, hQ4, st4⟩ := privQ X2 hx hZ (y := (⟨"com/example/clockwrap/clockwrap/store/LongTable$Part", "slot", "(J)I"⟩ : MethodName)) hown (hw _ (List.mem_of_getElem? (i := 49) rfl)) (hw _ (List.mem_of_getElem? (i := 50) rfl)) (hw _ (List.mem_of_getElem? (i := 18) rfl)) (hw _ (List.mem_of_getElem? (i := 52) rfl)) (hw _ (List.mem_of_getElem? (i := 51) rfl)) (hw _ (List.mem_of_getElem? (i := 17) rfl)) (by decide) E0 (argsL := [(.long key)]) (rest := [(.ref ka)]) (rm8 l Z a0 hw [] o0 key ka kf h0 n0 Z0 E0 Fs Fk Va (hP.free (by omega))) (W := 1) (by decide) (by decide) e2 (g := (mkF m 6 #[.val (.ref o0), .val (.long key), .second] [(.long key), (.ref o0), (.ref ka)])) rfl (by rw [hml]; rfl) (lenOf pd_1 rfl) rfl (by show 2 * 0 + _ ≤ _; exact Nat.le_of_eq rfl) (hb hby d12_6) (Nat.le_of_ble_eq_true rfl) (Nat.le_of_ble_eq_true rfl)
  obtain ⟨sl, rfl, N4q, e4, hs0, hfn⟩ := hQ4
  have N4 := Fr.app N0 N4q
  refine OFin.go st4 ?_
  show OFin p e below _ (T4.setTop (mkF m 9 #[.val (.ref o0), .val (.long key), .second] [(.int sl), (.ref ka)]))
  have S5 : ∀ t, Steps p.tables e below (T4.setTop (mkF m 12 #[.val (.ref o0), .val (.long key), .second] [(.int (lcmpW (kf sl.toNatClampNeg) key))])) t → Steps p.tables e below (T4.setTop (mkF m 9 #[.val (.ref o0), .val (.long key), .second] [(.int sl), (.ref ka)])) t := by
    intro t k
    show Steps p.tables e below (T4.setTop (mkF m 9 #[.val (.ref o0), .val (.long key), .second] [(.int sl), (.ref ka)])) t
    refine rdJ X4 hx hZ e4 Va (i := sl.toNatClampNeg) hs0 rfl (own_fls hfn) (x := (.long (kf sl.toNatClampNeg))) rfl (g := (mkF m 9 #[.val (.ref o0), .val (.long key), .second] [(.int sl), (.ref ka)])) rfl rfl (hb hby d12_9) ?_
    show Steps p.tables e below (T4.setTop (mkF m 10 #[.val (.ref o0), .val (.long key), .second] [(.long (kf sl.toNatClampNeg))])) t
    refine XS.lloadN X4.here hx rfl (hb hby d12_10) rfl ?_
    show Steps p.tables e below (T4.setTop (mkF m 11 #[.val (.ref o0), .val (.long key), .second] [(.long key), (.long (kf sl.toNatClampNeg))])) t
    refine XS.lcmp X4.here hx rfl (hb hby d12_11) rfl ?_
    exact k
  refine OFin.go S5 ?_
  have J6 : ∀ t, Steps p.tables e below (T4.setTop (mkF m 20 #[.val (.ref o0), .val (.long key), .second] [(.int (bi ((kf sl.toNatClampNeg) = key)))])) t → Steps p.tables e below (T4.setTop (mkF m 12 #[.val (.ref o0), .val (.long key), .second] [(.int (lcmpW (kf sl.toNatClampNeg) key))])) t := by
    intro t k
    show Steps p.tables e below (T4.setTop (mkF m 12 #[.val (.ref o0), .val (.long key), .second] [(.int (lcmpW (kf sl.toNatClampNeg) key))])) t
    by_cases h7 : ((kf sl.toNatClampNeg) = key)
    · refine XS.ifNo X4.here hx rfl (hb hby d12_12) rfl (lc_ne_f h7) ?_
      show Steps p.tables e below (T4.setTop (mkF m 15 #[.val (.ref o0), .val (.long key), .second] [])) t
      refine XS.iconst X4.here hx rfl (hb hby d12_15) ?_
      show Steps p.tables e below (T4.setTop (mkF m 16 #[.val (.ref o0), .val (.long key), .second] [(.int (1 : Int32))])) t
      refine XS.goto X4.here hx rfl (pc0 := 16) (pc' := 20) rfl (hb hby d12_16) (by decide) (by decide) ?_
      show Steps p.tables e below (T4.setTop (mkF m 20 #[.val (.ref o0), .val (.long key), .second] [(.int (1 : Int32))])) t
      exact (castTop (congrArg (fun zq_ => (mkF m 20 #[.val (.ref o0), .val (.long key), .second] [(.int zq_)])) (bi_t h7).symm) k)
    · refine XS.ifYes X4.here hx rfl (pc0 := 12) (pc' := 19) rfl (hb hby d12_12) rfl (lc_ne_t h7) (by decide) (by decide) ?_
      show Steps p.tables e below (T4.setTop (mkF m 19 #[.val (.ref o0), .val (.long key), .second] [])) t
      refine XS.iconst X4.here hx rfl (hb hby d12_19) ?_
      show Steps p.tables e below (T4.setTop (mkF m 20 #[.val (.ref o0), .val (.long key), .second] [(.int (0 : Int32))])) t
      exact (castTop (congrArg (fun zq_ => (mkF m 20 #[.val (.ref o0), .val (.long key), .second] [(.int zq_)])) (bi_f h7).symm) k)
  refine OFin.go J6 ?_
  exact finZ X4 hx Bd.notSynchronized (t := .boolean) Bd.returns (by simp) (hb hby d12_20) (nar_bi _) (by decide) (by decide) (⟨(bi ((kf sl.toNatClampNeg) = key)), rfl, N4, e4, by unfold bi; split <;> simp, ⟨fun q => (own_there hP.1 hP.2.1 hk hfn).mp (Classical.byContradiction fun r => by rw [bi_f r] at q; exact absurd q (by decide)), fun q => bi_t ((own_there hP.1 hP.2.1 hk hfn).mpr q)⟩⟩)
theorem own_t {kf vf : Nat → Int64} {tk : Int32} {mm : Nat} (hP : PI hm kf vf tk mm) (hm10 : mm < 10) : ¬ ((12 : Int32) < (tk + (1 : Int32))) ∧ (tk + (1 : Int32)).toInt = tk.toInt + 1 ∧ (tk - (1 : Int32)).toInt = tk.toInt - 1 := by
  have h1 := hP.2.2.2.2.1; have h2 := hP.2.2.2.2.2
  have a1 : (tk + 1).toInt = tk.toInt + 1 := by have := c_iadd tk 1; have := (tk + 1).toInt_lt; have := (tk + 1).le_toInt; simp only [Int32.reduceToInt] at *; omega
  have a2 : (tk - 1).toInt = tk.toInt - 1 := by have := c_isub tk 1; have := (tk - 1).toInt_lt; have := (tk - 1).le_toInt; simp only [Int32.reduceToInt] at *; omega
  refine ⟨?_, a1, a2⟩
  rw [Int32.lt_iff_toInt_lt, a1]; simp only [Int32.reduceToInt]; omega
theorem own_msk {x1 x2 : Int32} (h1 : ¬ x1 < 0) (h2 : ¬ x2 < 0) (h3 : x1.toNatClampNeg < 16) (h4 : x2.toNatClampNeg < 16) : ((x1 - x2) &&& (15 : Int32)).toInt = ((x1.toNatClampNeg + 16 - x2.toNatClampNeg) % 16 : Nat) := by
  have e1 := nat_of h1; have e2 := nat_of h2
  have a1 : (x1 - x2).toInt = x1.toInt - x2.toInt := by have := c_isub x1 x2; have := (x1 - x2).toInt_lt; have := (x1 - x2).le_toInt; omega
  have a2 := c_mask (x1 - x2) 15 4 (by decide) (by decide)
  have a3 : ((2 ^ 4 : Nat) : Int) = 16 := by decide
  rw [a3] at a2
  omega
theorem own_cmp {gp nx : Int32} {kg : Nat → Int64} {ii : Nat} (hg0 : ¬ gp < 0) (hgl : gp.toNatClampNeg < 16) (hn0 : ¬ nx < 0) (hnx : nx.toNatClampNeg = (gp.toNatClampNeg + ii) % 16) (hi0 : 0 < ii) (hi : ii < 16) :
    (((nx - hmI (kg nx.toNatClampNeg)) &&& (15 : Int32)) < ((nx - gp) &&& (15 : Int32))) ↔ ((gp.toNatClampNeg + ii) % 16 + 16 - hm (kg ((gp.toNatClampNeg + ii) % 16))) % 16 < ii := by
  have b1 := own_msk hn0 (hm_spec (kg nx.toNatClampNeg)).1 (by omega) (hm_lt (kg nx.toNatClampNeg))
  have b2 := own_msk hn0 hg0 (by omega) hgl
  rw [Int32.lt_iff_toInt_lt, b1, b2, ← hnx]
  show _ ↔ (nx.toNatClampNeg + 16 - (hmI (kg nx.toNatClampNeg)).toNatClampNeg) % 16 < ii
  have := hm_lt (kg nx.toNatClampNeg)
  show _ ↔ _
  have e3 : (nx.toNatClampNeg + 16 - gp.toNatClampNeg) % 16 = ii := by omega
  rw [e3]
  omega
theorem own_skipW {gp nx : Int32} {kg : Nat → Int64} {ii : Nat} (hg0 : ¬ gp < 0) (hn0 : ¬ nx < 0) (hnx : nx.toNatClampNeg = (gp.toNatClampNeg + ii) % 16) (hi : ii < 16) (hG : Gap hm kg gp.toNatClampNeg ii) (h0 : ¬ kg nx.toNatClampNeg = 0) (hc : ((nx - hmI (kg nx.toNatClampNeg)) &&& (15 : Int32)) < ((nx - gp) &&& (15 : Int32))) : Gap hm kg gp.toNatClampNeg (ii + 1) :=
  own_skip hm_lt hG hi (by rw [← hnx]; exact h0) ((own_cmp hg0 hG.1 hn0 hnx hG.2.1 hi).mp hc)
theorem own_moveW {gp nx : Int32} {kg : Nat → Int64} {ii : Nat} (hg0 : ¬ gp < 0) (hn0 : ¬ nx < 0) (hnx : nx.toNatClampNeg = (gp.toNatClampNeg + ii) % 16) (hi : ii < 16) (hG : Gap hm kg gp.toNatClampNeg ii) (h0 : ¬ kg nx.toNatClampNeg = 0) (hc : ¬ ((nx - hmI (kg nx.toNatClampNeg)) &&& (15 : Int32)) < ((nx - gp) &&& (15 : Int32))) : Gap hm (upd kg gp.toNatClampNeg (kg nx.toNatClampNeg)) nx.toNatClampNeg 1 := by
  have := own_move hm_lt hG hi (by rw [← hnx]; exact h0) (fun q => hc ((own_cmp hg0 hG.1 hn0 hnx hG.2.1 hi).mpr q))
  rw [← hnx] at this; exact this
theorem own_moveN {kg kf : Nat → Int64} {gp nx : Nat} (hn : nx < 16) (hfw : ∀ u, u < 16 → kg u ≠ 0 → kf u ≠ 0) (g0 : kg gp ≠ 0) : ∀ u, u < 16 → upd kg gp (kg nx) u ≠ 0 → kf u ≠ 0 := fun u hu q => by
  by_cases r : u = gp
  · subst r; exact hfw u hu g0
  · rw [upd_miss r] at q; exact hfw u hu q
theorem own_moveV {kg vg : Nat → Int64} {gp nx : Nat} (h0 : ¬ kg nx = 0) (hv : ∀ u, u < 16 → u ≠ gp → kg u = 0 → vg u = 0) : ∀ u, u < 16 → u ≠ nx → upd kg gp (kg nx) u = 0 → upd vg gp (vg nx) u = 0 := fun u hu q e => by
  by_cases r : u = gp
  · subst r; rw [upd_hit] at e; exact absurd e h0
  · rw [upd_miss r] at e ⊢; exact hv u hu r e
theorem own_upd0 {vf : Nat → Int64} {s : Nat} {w : Int64} (h : ∀ i, vf i = 0) (q : w = 0) : ∀ i, upd vf s w i = 0 := fun i => by
  by_cases r : i = s
  · subst r; rw [upd_hit]; exact q
  · rw [upd_miss r]; exact h i
theorem own_addR {kf vf kf' vf' : Nat → Int64} {key : Int64} (h : (∀ v, ¬ In kf vf key v) ∧ ∀ k v, k ≠ 0 → (In kf' vf' k v ↔ if k = key then v = 0 else In kf vf k v)) : ∀ kk vv, kk ≠ 0 → (In kf' vf' kk vv ↔ if kk = key then (vv = 0 ∧ ∀ v', ¬ In kf vf key v') ∨ In kf vf key vv else In kf vf kk vv) := fun kk vv q => by
  rw [h.2 kk vv q]
  by_cases r : kk = key
  · rw [if_pos r, if_pos r]
    exact ⟨fun z => Or.inl ⟨z, h.1⟩, fun z => z.elim (·.1) (fun y => absurd y (h.1 _))⟩
  · rw [if_neg r, if_neg r]
theorem own_addS {kf vf : Nat → Int64} {key : Int64} {s : Nat} (e : kf s = key) (hs : s < 16) : ∀ kk vv, kk ≠ 0 → (In kf vf kk vv ↔ if kk = key then (vv = 0 ∧ ∀ v', ¬ In kf vf key v') ∨ In kf vf key vv else In kf vf kk vv) := fun kk vv q => by
  by_cases r : kk = key
  · rw [if_pos r, r]
    exact ⟨Or.inr, fun z => z.elim (fun y => absurd ⟨s, hs, e, rfl⟩ (y.2 (vf s))) id⟩
  · rw [if_neg r]
theorem own_remS {kf vf : Nat → Int64} {key : Int64} (h : ¬ ∃ t, t < 16 ∧ kf t = key) : ∀ kk vv, kk ≠ 0 → (In kf vf kk vv ↔ kk ≠ key ∧ In kf vf kk vv) := fun kk vv q =>
  ⟨fun z => ⟨fun r => h (by obtain ⟨s, hs, e, _⟩ := z; exact ⟨s, hs, e.trans r⟩), z⟩, fun z => z.2⟩
theorem ef_rm7_n (m : MethodId) (o0 : Addr) (key : Int64) : entryFrame m #[(.ref o0), (.long key)] 5 = mkF m 0 #[.val (.ref o0), .val (.long key), .second, .unset, .unset] [] := by first | (simp [entryFrame, mkF, argsToLocals, Value.category]; done) | rfl
def Q_rm7_n (Z : State) (o0 : Addr) (key : Int64) (ka : Addr) (kf vf : Nat → Int64) (tk : Int32) (mm : Nat) (h0 : Heap) (n0 : Nat) (v : Option Value) (h : Heap) (L : List Loc) : Prop := ∃ (b : Int32) (kf' vf' : Nat → Int64) (tk' : Int32), v = some (.int b) ∧ Fr n0 L ∧ Keep h0 h [o0, ka] ∧ Exa Z h o0 "com/example/clockwrap/clockwrap/store/LongTable$Part" ∧ Fld Z h o0 "com/example/clockwrap/clockwrap/store/LongTable$Part" "keys" "[J" (.ref ka) ∧ Fld Z h o0 "com/example/clockwrap/clockwrap/store/LongTable$Part" "values" "[J" .null ∧ Fld Z h o0 "com/example/clockwrap/clockwrap/store/LongTable$Part" "shift" "I" (.int (60 : Int32)) ∧ Fld Z h o0 "com/example/clockwrap/clockwrap/store/LongTable$Part" "taken" "I" (.int tk') ∧ Ara Z h ka .long 16 (fun i => .long (kf' i)) ∧ PI hm kf' vf' tk' (mm + 1) ∧ (∀ kk vv, kk ≠ 0 → (In kf' vf' kk vv ↔ if kk = key then (vv = 0 ∧ ∀ v', ¬ In kf vf key v') ∨ In kf vf key vv else In kf vf kk vv)) ∧ ((∀ i, vf i = 0) → ∀ i, vf' i = 0)
theorem d7_0 : decode prog_33_method_3_code 0 = .ok (.aload_n 0, 1) := by decide +kernel
theorem d7_1 : decode prog_33_method_3_code 1 = .ok (.lload_n 1, 1) := by decide +kernel
theorem d7_2 : decode prog_33_method_3_code 2 = .ok (.invokevirtual 27, 3) := by decide +kernel
theorem d7_5 : decode prog_33_method_3_code 5 = .ok (.istore_n 3, 1) := by decide +kernel
theorem d7_6 : decode prog_33_method_3_code 6 = .ok (.aload_n 0, 1) := by decide +kernel
theorem d7_7 : decode prog_33_method_3_code 7 = .ok (.getfield 11, 3) := by decide +kernel
theorem d7_10 : decode prog_33_method_3_code 10 = .ok (.iload_n 3, 1) := by decide +kernel
theorem d7_11 : decode prog_33_method_3_code 11 = .ok (.laload, 1) := by decide +kernel
theorem d7_12 : decode prog_33_method_3_code 12 = .ok (.lconst 0, 1) := by decide +kernel
theorem d7_13 : decode prog_33_method_3_code 13 = .ok (.lcmp, 1) := by decide +kernel
theorem d7_14 : decode prog_33_method_3_code 14 = .ok (.ifCond .ne 7, 3) := by decide +kernel
theorem d7_17 : decode prog_33_method_3_code 17 = .ok (.iconst 1, 1) := by decide +kernel
theorem d7_18 : decode prog_33_method_3_code 18 = .ok (.goto 4, 3) := by decide +kernel
theorem d7_21 : decode prog_33_method_3_code 21 = .ok (.iconst 0, 1) := by decide +kernel
theorem d7_22 : decode prog_33_method_3_code 22 = .ok (.istore 4, 2) := by decide +kernel
theorem d7_24 : decode prog_33_method_3_code 24 = .ok (.iload 4, 2) := by decide +kernel
theorem d7_26 : decode prog_33_method_3_code 26 = .ok (.ifCond .eq 10, 3) := by decide +kernel
theorem d7_29 : decode prog_33_method_3_code 29 = .ok (.aload_n 0, 1) := by decide +kernel
theorem d7_30 : decode prog_33_method_3_code 30 = .ok (.iload_n 3, 1) := by decide +kernel
theorem d7_31 : decode prog_33_method_3_code 31 = .ok (.lload_n 1, 1) := by decide +kernel
theorem d7_32 : decode prog_33_method_3_code 32 = .ok (.lconst 0, 1) := by decide +kernel
theorem pd_2 : parseMethodDescriptor "(IJJ)V" = some ⟨[.int, .long, .long], none⟩ := by decide +kernel
theorem d7_33 : decode prog_33_method_3_code 33 = .ok (.invokevirtual 31, 3) := by decide +kernel
theorem d7_36 : decode prog_33_method_3_code 36 = .ok (.iload 4, 2) := by decide +kernel
theorem d7_38 : decode prog_33_method_3_code 38 = .ok (.ireturn, 1) := by decide +kernel
set_option maxRecDepth 65536 in
set_option maxHeartbeats 40000000 in
theorem rm7_n (l : Launch) (Z : State) (a0 : Array Value) (hw : ∀ d ∈ tables_1, d.before a0 Z = true) (ws : List Jvm.Cond) (o0 : Addr) (key : Int64) (ka : Addr) (kf vf : Nat → Int64) (tk : Int32) (mm : Nat) (h0 : Heap) (n0 : Nat) (Z0 : n0 ≤ h0.size) (geo : n0 ≤ o0) (gek : n0 ≤ ka) (nok : o0 ≠ ka) (E0 : Exa Z h0 o0 "com/example/clockwrap/clockwrap/store/LongTable$Part") (Fk : Fld Z h0 o0 "com/example/clockwrap/clockwrap/store/LongTable$Part" "keys" "[J" (.ref ka)) (Fv : Fld Z h0 o0 "com/example/clockwrap/clockwrap/store/LongTable$Part" "values" "[J" .null) (Fs : Fld Z h0 o0 "com/example/clockwrap/clockwrap/store/LongTable$Part" "shift" "I" (.int (60 : Int32))) (Ft : Fld Z h0 o0 "com/example/clockwrap/clockwrap/store/LongTable$Part" "taken" "I" (.int tk)) (Va : Ara Z h0 ka .long 16 (fun i => .long (kf i))) (hP : PI hm kf vf tk mm) (hm10 : mm < 10) (hk : key ≠ 0) :
    MetFree l (⟨"com/example/clockwrap/clockwrap/store/LongTable$Part", "add", "(J)Z"⟩ : MethodName) (head1 (Jvm.Cond.code (⟨"com/example/clockwrap/clockwrap/store/LongTable$Part", "add", "(J)Z"⟩ : MethodName) prog_33_method_3_code 5 (some .boolean) :: ws) ({ frames := 2, cells := 0, slots := 0, locals := 40 } : Room)) (fun a U => a = #[(.ref o0), (.long key)] ∧ Z.Warmed39 U.vm ∧ U.heap = h0) (fun _ _ _ _ _ => True) (fun _ U o U' => ∃ v L, o = .returned v ∧ (Q_rm7_n Z o0 key ka kf vf tk mm h0 n0) v U'.heap L ∧ FrameEnd U o U' L ({ frames := 2, cells := 0, slots := 0, locals := 40 } : Room).cells ({ frames := 2, cells := 0, slots := 0, locals := 40 } : Room).slots) := by
  refine MetFree.of_bodySF (plainFor_of_name pn_1) hisR ?_
  intro p e s m args below meth c s₁ Bd hml0 hP hK
  obtain ⟨rfl, hZ, hh⟩ := hP
  have hx := Bd.exec
  have hby := Bd.bytes
  have hml : c.maxLocals = 5 := hml0
  have hown : s.vm.findClass "com/example/clockwrap/clockwrap/store/LongTable$Part" = some m.cls := findClass_of_methodNamed Bd.named
  have hnm := (name_of_methodNamed Bd.named Bd.method).1
  have X0 : Stand p l e ({ frames := 2, cells := 0, slots := 0, locals := 40 } : Room) s m #[(.ref o0), (.long key)] below meth c s₁ [] 0 0 := Stand.of_body Bd
  have e0 : s₁.heap = h0 := by rw [← hh, Bd.state]; rfl
  have N0 := Fr.nil n0
  show OFin p e below (ORet (Q_rm7_n Z o0 key ka kf vf tk mm h0 n0) s ({ frames := 2, cells := 0, slots := 0, locals := 40 } : Room).cells ({ frames := 2, cells := 0, slots := 0, locals := 40 } : Room).slots) (s₁.setTop (entryFrame m #[(.ref o0), (.long key)] 5))
  refine OFin.go (fun t k => castTop (ef_rm7_n m o0 key) k) ?_
  have K0 := Keep.refl h0 [o0, ka]
  show OFin p e below (ORet (Q_rm7_n Z o0 key ka kf vf tk mm h0 n0) s ({ frames := 2, cells := 0, slots := 0, locals := 40 } : Room).cells ({ frames := 2, cells := 0, slots := 0, locals := 40 } : Room).slots) (s₁.setTop (mkF m 0 #[.val (.ref o0), .val (.long key), .second, .unset, .unset] []))
  have S1 : ∀ t, Steps p.tables e below (s₁.setTop (mkF m 2 #[.val (.ref o0), .val (.long key), .second, .unset, .unset] [(.long key), (.ref o0)])) t → Steps p.tables e below (s₁.setTop (mkF m 0 #[.val (.ref o0), .val (.long key), .second, .unset, .unset] [])) t := by
    intro t k
    show Steps p.tables e below (s₁.setTop (mkF m 0 #[.val (.ref o0), .val (.long key), .second, .unset, .unset] [])) t
    refine XS.aloadN X0.here hx rfl (hb hby d7_0) rfl rfl ?_
    show Steps p.tables e below (s₁.setTop (mkF m 1 #[.val (.ref o0), .val (.long key), .second, .unset, .unset] [(.ref o0)])) t
    refine XS.lloadN X0.here hx rfl (hb hby d7_1) rfl ?_
    exact k
  refine OFin.go S1 ?_
  obtain ⟨_, T2, Lc2, X2, hQ2, st2⟩ := privQ X0 hx hZ (y := (⟨"com/example/clockwrap/clockwrap/store/LongTable$Part", "slot", "(J)I"⟩ : MethodName)) hown (hw _ (List.mem_of_getElem? (i := 49) rfl)) (hw _ (List.mem_of_getElem? (i := 50) rfl)) (hw _ (List.mem_of_getElem? (i := 18) rfl)) (hw _ (List.mem_of_getElem? (i := 52) rfl)) (hw _ (List.mem_of_getElem? (i := 51) rfl)) (hw _ (List.mem_of_getElem? (i := 17) rfl)) (by decide) E0 (argsL := [(.long key)]) (rest := []) (rm8 l Z a0 hw [] o0 key ka kf h0 n0 Z0 E0 Fs Fk Va (hP.free (by omega))) (W := 0) (by decide) (by decide) e0 (g := (mkF m 2 #[.val (.ref o0), .val (.long key), .second, .unset, .unset] [(.long key), (.ref o0)])) rfl (by rw [hml]; rfl) (lenOf pd_1 rfl) rfl (by show 2 * 0 + _ ≤ _; exact Nat.le_of_eq rfl) (hb hby d7_2) (Nat.le_of_ble_eq_true rfl) (Nat.le_of_ble_eq_true rfl)
  obtain ⟨sl, rfl, N2q, e2, hs0, hfn⟩ := hQ2
  have N2 := Fr.app N0 N2q
  refine OFin.go st2 ?_
  show OFin p e below _ (T2.setTop (mkF m 5 #[.val (.ref o0), .val (.long key), .second, .unset, .unset] [(.int sl)]))
  have S3 : ∀ t, Steps p.tables e below (T2.setTop (mkF m 7 #[.val (.ref o0), .val (.long key), .second, .val (.int sl), .unset] [(.ref o0)])) t → Steps p.tables e below (T2.setTop (mkF m 5 #[.val (.ref o0), .val (.long key), .second, .unset, .unset] [(.int sl)])) t := by
    intro t k
    show Steps p.tables e below (T2.setTop (mkF m 5 #[.val (.ref o0), .val (.long key), .second, .unset, .unset] [(.int sl)])) t
    refine XS.istoreN X2.here hx rfl (hb hby d7_5) rfl (l' := #[.val (.ref o0), .val (.long key), .second, .val (.int sl), .unset]) rfl ?_
    show Steps p.tables e below (T2.setTop (mkF m 6 #[.val (.ref o0), .val (.long key), .second, .val (.int sl), .unset] [])) t
    refine XS.aloadN X2.here hx rfl (hb hby d7_6) rfl rfl ?_
    exact k
  refine OFin.go S3 ?_
  obtain ⟨T4, X4, e4, st4⟩ := getF X2 hx hZ hown (host := "") (Or.inl (hw _ (List.mem_of_getElem? (i := 24) rfl))) Via.refl e2 Fk (g := (mkF m 7 #[.val (.ref o0), .val (.long key), .second, .val (.int sl), .unset] [(.ref o0)])) rfl rfl (hb hby d7_7)
  refine OFin.go st4 ?_
  show OFin p e below _ (T4.setTop (mkF m 10 #[.val (.ref o0), .val (.long key), .second, .val (.int sl), .unset] [(.ref ka)]))
  have S5 : ∀ t, Steps p.tables e below (T4.setTop (mkF m 14 #[.val (.ref o0), .val (.long key), .second, .val (.int sl), .unset] [(.int (lcmpW (kf sl.toNatClampNeg) (0 : Int64)))])) t → Steps p.tables e below (T4.setTop (mkF m 10 #[.val (.ref o0), .val (.long key), .second, .val (.int sl), .unset] [(.ref ka)])) t := by
    intro t k
    show Steps p.tables e below (T4.setTop (mkF m 10 #[.val (.ref o0), .val (.long key), .second, .val (.int sl), .unset] [(.ref ka)])) t
    refine XS.iloadN X4.here hx rfl (hb hby d7_10) rfl ?_
    show Steps p.tables e below (T4.setTop (mkF m 11 #[.val (.ref o0), .val (.long key), .second, .val (.int sl), .unset] [(.int sl), (.ref ka)])) t
    refine rdJ X4 hx hZ e4 Va (i := sl.toNatClampNeg) hs0 rfl (own_fls hfn) (x := (.long (kf sl.toNatClampNeg))) rfl (g := (mkF m 11 #[.val (.ref o0), .val (.long key), .second, .val (.int sl), .unset] [(.int sl), (.ref ka)])) rfl rfl (hb hby d7_11) ?_
    show Steps p.tables e below (T4.setTop (mkF m 12 #[.val (.ref o0), .val (.long key), .second, .val (.int sl), .unset] [(.long (kf sl.toNatClampNeg))])) t
    refine XS.lconst X4.here hx rfl (hb hby d7_12) ?_
    show Steps p.tables e below (T4.setTop (mkF m 13 #[.val (.ref o0), .val (.long key), .second, .val (.int sl), .unset] [(.long (0 : Int64)), (.long (kf sl.toNatClampNeg))])) t
    refine XS.lcmp X4.here hx rfl (hb hby d7_13) rfl ?_
    exact k
  refine OFin.go S5 ?_
  have J6 : ∀ t, Steps p.tables e below (T4.setTop (mkF m 22 #[.val (.ref o0), .val (.long key), .second, .val (.int sl), .unset] [(.int (bi ((kf sl.toNatClampNeg) = (0 : Int64))))])) t → Steps p.tables e below (T4.setTop (mkF m 14 #[.val (.ref o0), .val (.long key), .second, .val (.int sl), .unset] [(.int (lcmpW (kf sl.toNatClampNeg) (0 : Int64)))])) t := by
    intro t k
    show Steps p.tables e below (T4.setTop (mkF m 14 #[.val (.ref o0), .val (.long key), .second, .val (.int sl), .unset] [(.int (lcmpW (kf sl.toNatClampNeg) (0 : Int64)))])) t
    by_cases h7 : ((kf sl.toNatClampNeg) = (0 : Int64))
    · refine XS.ifNo X4.here hx rfl (hb hby d7_14) rfl (lc_ne_f h7) ?_
      show Steps p.tables e below (T4.setTop (mkF m 17 #[.val (.ref o0), .val (.long key), .second, .val (.int sl), .unset] [])) t
      refine XS.iconst X4.here hx rfl (hb hby d7_17) ?_
      show Steps p.tables e below (T4.setTop (mkF m 18 #[.val (.ref o0), .val (.long key), .second, .val (.int sl), .unset] [(.int (1 : Int32))])) t
      refine XS.goto X4.here hx rfl (pc0 := 18) (pc' := 22) rfl (hb hby d7_18) (by decide) (by decide) ?_
      show Steps p.tables e below (T4.setTop (mkF m 22 #[.val (.ref o0), .val (.long key), .second, .val (.int sl), .unset] [(.int (1 : Int32))])) t
      exact (castTop (congrArg (fun zq_ => (mkF m 22 #[.val (.ref o0), .val (.long key), .second, .val (.int sl), .unset] [(.int zq_)])) (bi_t h7).symm) k)
    · refine XS.ifYes X4.here hx rfl (pc0 := 14) (pc' := 21) rfl (hb hby d7_14) rfl (lc_ne_t h7) (by decide) (by decide) ?_
      show Steps p.tables e below (T4.setTop (mkF m 21 #[.val (.ref o0), .val (.long key), .second, .val (.int sl), .unset] [])) t
      refine XS.iconst X4.here hx rfl (hb hby d7_21) ?_
      show Steps p.tables e below (T4.setTop (mkF m 22 #[.val (.ref o0), .val (.long key), .second, .val (.int sl), .unset] [(.int (0 : Int32))])) t
      exact (castTop (congrArg (fun zq_ => (mkF m 22 #[.val (.ref o0), .val (.long key), .second, .val (.int sl), .unset] [(.int zq_)])) (bi_f h7).symm) k)
  refine OFin.go J6 ?_
  have S8 : ∀ t, Steps p.tables e below (T4.setTop (mkF m 26 #[.val (.ref o0), .val (.long key), .second, .val (.int sl), .val (.int (bi ((kf sl.toNatClampNeg) = (0 : Int64))))] [(.int (bi ((kf sl.toNatClampNeg) = (0 : Int64))))])) t → Steps p.tables e below (T4.setTop (mkF m 22 #[.val (.ref o0), .val (.long key), .second, .val (.int sl), .unset] [(.int (bi ((kf sl.toNatClampNeg) = (0 : Int64))))])) t := by
    intro t k
    show Steps p.tables e below (T4.setTop (mkF m 22 #[.val (.ref o0), .val (.long key), .second, .val (.int sl), .unset] [(.int (bi ((kf sl.toNatClampNeg) = (0 : Int64))))])) t
    refine XS.istore X4.here hx rfl (hb hby d7_22) rfl (l' := #[.val (.ref o0), .val (.long key), .second, .val (.int sl), .val (.int (bi ((kf sl.toNatClampNeg) = (0 : Int64))))]) rfl ?_
    show Steps p.tables e below (T4.setTop (mkF m 24 #[.val (.ref o0), .val (.long key), .second, .val (.int sl), .val (.int (bi ((kf sl.toNatClampNeg) = (0 : Int64))))] [])) t
    refine XS.iload X4.here hx rfl (hb hby d7_24) rfl ?_
    exact k
  refine OFin.go S8 ?_
  by_cases h9 : ((kf sl.toNatClampNeg) = (0 : Int64))
  · -- pc 26: ((kf sl.toNatClampNeg) = (0 : Int64))
    have S10 : ∀ t, Steps p.tables e below (T4.setTop (mkF m 29 #[.val (.ref o0), .val (.long key), .second, .val (.int sl), .val (.int (bi ((kf sl.toNatClampNeg) = (0 : Int64))))] [])) t → Steps p.tables e below (T4.setTop (mkF m 26 #[.val (.ref o0), .val (.long key), .second, .val (.int sl), .val (.int (bi ((kf sl.toNatClampNeg) = (0 : Int64))))] [(.int (bi ((kf sl.toNatClampNeg) = (0 : Int64))))])) t := by
      intro t k
      show Steps p.tables e below (T4.setTop (mkF m 26 #[.val (.ref o0), .val (.long key), .second, .val (.int sl), .val (.int (bi ((kf sl.toNatClampNeg) = (0 : Int64))))] [(.int (bi ((kf sl.toNatClampNeg) = (0 : Int64))))])) t
      refine XS.ifNo X4.here hx rfl (hb hby d7_26) rfl (bi_eq_f h9) ?_
      exact k
    refine OFin.go S10 ?_
    have S11 : ∀ t, Steps p.tables e below (T4.setTop (mkF m 33 #[.val (.ref o0), .val (.long key), .second, .val (.int sl), .val (.int (bi ((kf sl.toNatClampNeg) = (0 : Int64))))] [(.long (0 : Int64)), (.long key), (.int sl), (.ref o0)])) t → Steps p.tables e below (T4.setTop (mkF m 29 #[.val (.ref o0), .val (.long key), .second, .val (.int sl), .val (.int (bi ((kf sl.toNatClampNeg) = (0 : Int64))))] [])) t := by
      intro t k
      show Steps p.tables e below (T4.setTop (mkF m 29 #[.val (.ref o0), .val (.long key), .second, .val (.int sl), .val (.int (bi ((kf sl.toNatClampNeg) = (0 : Int64))))] [])) t
      refine XS.aloadN X4.here hx rfl (hb hby d7_29) rfl rfl ?_
      show Steps p.tables e below (T4.setTop (mkF m 30 #[.val (.ref o0), .val (.long key), .second, .val (.int sl), .val (.int (bi ((kf sl.toNatClampNeg) = (0 : Int64))))] [(.ref o0)])) t
      refine XS.iloadN X4.here hx rfl (hb hby d7_30) rfl ?_
      show Steps p.tables e below (T4.setTop (mkF m 31 #[.val (.ref o0), .val (.long key), .second, .val (.int sl), .val (.int (bi ((kf sl.toNatClampNeg) = (0 : Int64))))] [(.int sl), (.ref o0)])) t
      refine XS.lloadN X4.here hx rfl (hb hby d7_31) rfl ?_
      show Steps p.tables e below (T4.setTop (mkF m 32 #[.val (.ref o0), .val (.long key), .second, .val (.int sl), .val (.int (bi ((kf sl.toNatClampNeg) = (0 : Int64))))] [(.long key), (.int sl), (.ref o0)])) t
      refine XS.lconst X4.here hx rfl (hb hby d7_32) ?_
      exact k
    refine OFin.go S11 ?_
    obtain ⟨_, T12, Lc12, X12, hQ12, st12⟩ := privQ X4 hx hZ (y := (⟨"com/example/clockwrap/clockwrap/store/LongTable$Part", "place", "(IJJ)V"⟩ : MethodName)) hown (hw _ (List.mem_of_getElem? (i := 58) rfl)) (hw _ (List.mem_of_getElem? (i := 59) rfl)) (hw _ (List.mem_of_getElem? (i := 18) rfl)) (hw _ (List.mem_of_getElem? (i := 61) rfl)) (hw _ (List.mem_of_getElem? (i := 60) rfl)) (hw _ (List.mem_of_getElem? (i := 17) rfl)) (by decide) E0 (argsL := [(.int sl), (.long key), (.long (0 : Int64))]) (rest := []) (rm10_n l Z a0 hw [] o0 sl key (0 : Int64) ka kf vf tk h0 n0 Z0 geo gek nok E0 Fk Fv Fs Ft Va hs0 (own_fls hfn) (own_t hP hm10).1) (W := 0) (by decide) (by decide) e4 (g := (mkF m 33 #[.val (.ref o0), .val (.long key), .second, .val (.int sl), .val (.int (bi ((kf sl.toNatClampNeg) = (0 : Int64))))] [(.long (0 : Int64)), (.long key), (.int sl), (.ref o0)])) rfl (by rw [hml]; rfl) (lenOf pd_2 rfl) rfl (by show 2 * 0 + _ ≤ _; exact Nat.le_of_eq rfl) (hb hby d7_33) (Nat.le_of_ble_eq_true rfl) (Nat.le_of_ble_eq_true rfl)
    obtain ⟨rfl, N12q, K12q, E12, Fk12, Fv12, Fs12, Ft12, Va12⟩ := hQ12
    have Z12 : n0 ≤ T12.heap.size := Nat.le_trans Z0 K12q.1
    have K12 := Keep.trans K0 K12q (allS (Or.inl (List.mem_of_getElem? (i := 0) rfl)) (allS (Or.inl (List.mem_of_getElem? (i := 1) rfl)) all0))
    have N12 := Fr.app N2 N12q
    refine OFin.go st12 ?_
    show OFin p e below _ (T12.setTop (mkF m 36 #[.val (.ref o0), .val (.long key), .second, .val (.int sl), .val (.int (bi ((kf sl.toNatClampNeg) = (0 : Int64))))] []))
    have S13 : ∀ t, Steps p.tables e below (T12.setTop (mkF m 38 #[.val (.ref o0), .val (.long key), .second, .val (.int sl), .val (.int (bi ((kf sl.toNatClampNeg) = (0 : Int64))))] [(.int (bi ((kf sl.toNatClampNeg) = (0 : Int64))))])) t → Steps p.tables e below (T12.setTop (mkF m 36 #[.val (.ref o0), .val (.long key), .second, .val (.int sl), .val (.int (bi ((kf sl.toNatClampNeg) = (0 : Int64))))] [])) t := by
      intro t k
      show Steps p.tables e below (T12.setTop (mkF m 36 #[.val (.ref o0), .val (.long key), .second, .val (.int sl), .val (.int (bi ((kf sl.toNatClampNeg) = (0 : Int64))))] [])) t
      refine XS.iload X12.here hx rfl (hb hby d7_36) rfl ?_
      exact k
    refine OFin.go S13 ?_
    exact finZ X12 hx Bd.notSynchronized (t := .boolean) Bd.returns (by simp) (hb hby d7_38) (nar_bi _) (by decide) (by decide) (by exact ⟨_, upd kf sl.toNatClampNeg key, upd vf sl.toNatClampNeg 0, tk + 1, rfl, N12, K12, E12, Fk12, Fv12, Fs12, Ft12, Va12, (own_addNew hP (by omega) hk hfn h9 (own_t hP hm10).2.1).1, own_addR (own_addNew hP (by omega) hk hfn h9 (own_t hP hm10).2.1).2, fun q => own_upd0 q rfl⟩)
  · -- pc 26: not ((kf sl.toNatClampNeg) = (0 : Int64))
    have S14 : ∀ t, Steps p.tables e below (T4.setTop (mkF m 36 #[.val (.ref o0), .val (.long key), .second, .val (.int sl), .val (.int (bi ((kf sl.toNatClampNeg) = (0 : Int64))))] [])) t → Steps p.tables e below (T4.setTop (mkF m 26 #[.val (.ref o0), .val (.long key), .second, .val (.int sl), .val (.int (bi ((kf sl.toNatClampNeg) = (0 : Int64))))] [(.int (bi ((kf sl.toNatClampNeg) = (0 : Int64))))])) t := by
      intro t k
      show Steps p.tables e below (T4.setTop (mkF m 26 #[.val (.ref o0), .val (.long key), .second, .val (.int sl), .val (.int (bi ((kf sl.toNatClampNeg) = (0 : Int64))))] [(.int (bi ((kf sl.toNatClampNeg) = (0 : Int64))))])) t
      refine XS.ifYes X4.here hx rfl (pc0 := 26) (pc' := 36) rfl (hb hby d7_26) rfl (bi_eq_t h9) (by decide) (by decide) ?_
      exact k
    refine OFin.go S14 ?_
    have S15 : ∀ t, Steps p.tables e below (T4.setTop (mkF m 38 #[.val (.ref o0), .val (.long key), .second, .val (.int sl), .val (.int (bi ((kf sl.toNatClampNeg) = (0 : Int64))))] [(.int (bi ((kf sl.toNatClampNeg) = (0 : Int64))))])) t → Steps p.tables e below (T4.setTop (mkF m 36 #[.val (.ref o0), .val (.long key), .second, .val (.int sl), .val (.int (bi ((kf sl.toNatClampNeg) = (0 : Int64))))] [])) t := by
      intro t k
      show Steps p.tables e below (T4.setTop (mkF m 36 #[.val (.ref o0), .val (.long key), .second, .val (.int sl), .val (.int (bi ((kf sl.toNatClampNeg) = (0 : Int64))))] [])) t
      refine XS.iload X4.here hx rfl (hb hby d7_36) rfl ?_
      exact k
    refine OFin.go S15 ?_
    exact finZ X4 hx Bd.notSynchronized (t := .boolean) Bd.returns (by simp) (hb hby d7_38) (nar_bi _) (by decide) (by decide) (by rw [e4]; exact ⟨_, kf, vf, tk, rfl, N2, K0, E0, Fk, Fv, Fs, Ft, Va, hP.mono (by omega), own_addS ((own_lk hfn).resolve_left h9) (own_fls hfn), fun q => q⟩)
theorem ef_rm16_n (m : MethodId) (o0 : Addr) (u1 : Int32) : entryFrame m #[(.ref o0), (.int u1)] 5 = mkF m 0 #[.val (.ref o0), .val (.int u1), .unset, .unset, .unset] [] := by first | (simp [entryFrame, mkF, argsToLocals, Value.category]; done) | rfl
def Q_rm16_n (Z : State) (o0 : Addr) (u1 : Int32) (ka : Addr) (kf vf : Nat → Int64) (tk : Int32) (mm : Nat) (h0 : Heap) (n0 : Nat) (v : Option Value) (h : Heap) (L : List Loc) : Prop := ∃ (kf' vf' : Nat → Int64), v = none ∧ Fr n0 L ∧ Keep h0 h [o0, ka] ∧ Exa Z h o0 "com/example/clockwrap/clockwrap/store/LongTable$Part" ∧ Fld Z h o0 "com/example/clockwrap/clockwrap/store/LongTable$Part" "keys" "[J" (.ref ka) ∧ Fld Z h o0 "com/example/clockwrap/clockwrap/store/LongTable$Part" "values" "[J" .null ∧ Fld Z h o0 "com/example/clockwrap/clockwrap/store/LongTable$Part" "shift" "I" (.int (60 : Int32)) ∧ Fld Z h o0 "com/example/clockwrap/clockwrap/store/LongTable$Part" "taken" "I" (.int tk) ∧ Ara Z h ka .long 16 (fun i => .long (kf' i)) ∧ (∀ tk' : Int32, tk'.toInt = tk.toInt - 1 → PI hm kf' vf' tk' (mm + 1)) ∧ (∀ kk vv, kk ≠ 0 → (In kf' vf' kk vv ↔ kk ≠ kf u1.toNatClampNeg ∧ In kf vf kk vv)) ∧ ((∀ i, vf i = 0) → ∀ i, vf' i = 0)
theorem d16_0 : decode prog_33_method_10_code 0 = .ok (.aload_n 0, 1) := by decide +kernel
theorem d16_1 : decode prog_33_method_10_code 1 = .ok (.getfield 11, 3) := by decide +kernel
theorem d16_4 : decode prog_33_method_10_code 4 = .ok (.arraylength, 1) := by decide +kernel
theorem d16_5 : decode prog_33_method_10_code 5 = .ok (.iconst 1, 1) := by decide +kernel
theorem d16_6 : decode prog_33_method_10_code 6 = .ok (.isub, 1) := by decide +kernel
theorem d16_7 : decode prog_33_method_10_code 7 = .ok (.istore_n 2, 1) := by decide +kernel
theorem d16_8 : decode prog_33_method_10_code 8 = .ok (.iload_n 1, 1) := by decide +kernel
theorem d16_9 : decode prog_33_method_10_code 9 = .ok (.istore_n 3, 1) := by decide +kernel
theorem d16_10 : decode prog_33_method_10_code 10 = .ok (.iload_n 3, 1) := by decide +kernel
theorem d16_11 : decode prog_33_method_10_code 11 = .ok (.iconst 1, 1) := by decide +kernel
theorem d16_12 : decode prog_33_method_10_code 12 = .ok (.iadd, 1) := by decide +kernel
theorem d16_13 : decode prog_33_method_10_code 13 = .ok (.iload_n 2, 1) := by decide +kernel
theorem d16_14 : decode prog_33_method_10_code 14 = .ok (.iand, 1) := by decide +kernel
theorem d16_15 : decode prog_33_method_10_code 15 = .ok (.istore 4, 2) := by decide +kernel
theorem d16_17 : decode prog_33_method_10_code 17 = .ok (.aload_n 0, 1) := by decide +kernel
theorem d16_18 : decode prog_33_method_10_code 18 = .ok (.getfield 11, 3) := by decide +kernel
theorem d16_21 : decode prog_33_method_10_code 21 = .ok (.iload 4, 2) := by decide +kernel
theorem d16_23 : decode prog_33_method_10_code 23 = .ok (.laload, 1) := by decide +kernel
theorem d16_24 : decode prog_33_method_10_code 24 = .ok (.lconst 0, 1) := by decide +kernel
theorem d16_25 : decode prog_33_method_10_code 25 = .ok (.lcmp, 1) := by decide +kernel
theorem d16_26 : decode prog_33_method_10_code 26 = .ok (.ifCond .eq 75, 3) := by decide +kernel
theorem d16_101 : decode prog_33_method_10_code 101 = .ok (.aload_n 0, 1) := by decide +kernel
theorem d16_102 : decode prog_33_method_10_code 102 = .ok (.getfield 11, 3) := by decide +kernel
theorem d16_105 : decode prog_33_method_10_code 105 = .ok (.iload_n 3, 1) := by decide +kernel
theorem d16_106 : decode prog_33_method_10_code 106 = .ok (.lconst 0, 1) := by decide +kernel
theorem d16_107 : decode prog_33_method_10_code 107 = .ok (.lastore, 1) := by decide +kernel
theorem d16_108 : decode prog_33_method_10_code 108 = .ok (.aload_n 0, 1) := by decide +kernel
theorem d16_109 : decode prog_33_method_10_code 109 = .ok (.getfield 35, 3) := by decide +kernel
theorem d16_112 : decode prog_33_method_10_code 112 = .ok (.ifnull 10, 3) := by decide +kernel
theorem d16_122 : decode prog_33_method_10_code 122 = .ok (.return_, 1) := by decide +kernel
theorem d16_29 : decode prog_33_method_10_code 29 = .ok (.iload 4, 2) := by decide +kernel
theorem d16_31 : decode prog_33_method_10_code 31 = .ok (.aload_n 0, 1) := by decide +kernel
theorem d16_32 : decode prog_33_method_10_code 32 = .ok (.aload_n 0, 1) := by decide +kernel
theorem d16_33 : decode prog_33_method_10_code 33 = .ok (.getfield 11, 3) := by decide +kernel
theorem d16_36 : decode prog_33_method_10_code 36 = .ok (.iload 4, 2) := by decide +kernel
theorem d16_38 : decode prog_33_method_10_code 38 = .ok (.laload, 1) := by decide +kernel
theorem d16_39 : decode prog_33_method_10_code 39 = .ok (.invokevirtual 48, 3) := by decide +kernel
theorem d16_42 : decode prog_33_method_10_code 42 = .ok (.isub, 1) := by decide +kernel
theorem d16_43 : decode prog_33_method_10_code 43 = .ok (.iload_n 2, 1) := by decide +kernel
theorem d16_44 : decode prog_33_method_10_code 44 = .ok (.iand, 1) := by decide +kernel
theorem d16_45 : decode prog_33_method_10_code 45 = .ok (.iload 4, 2) := by decide +kernel
theorem d16_47 : decode prog_33_method_10_code 47 = .ok (.iload_n 3, 1) := by decide +kernel
theorem d16_48 : decode prog_33_method_10_code 48 = .ok (.isub, 1) := by decide +kernel
theorem d16_49 : decode prog_33_method_10_code 49 = .ok (.iload_n 2, 1) := by decide +kernel
theorem d16_50 : decode prog_33_method_10_code 50 = .ok (.iand, 1) := by decide +kernel
theorem d16_51 : decode prog_33_method_10_code 51 = .ok (.if_icmp .lt 39, 3) := by decide +kernel
theorem d16_90 : decode prog_33_method_10_code 90 = .ok (.iload 4, 2) := by decide +kernel
theorem d16_92 : decode prog_33_method_10_code 92 = .ok (.iconst 1, 1) := by decide +kernel
theorem d16_93 : decode prog_33_method_10_code 93 = .ok (.iadd, 1) := by decide +kernel
theorem d16_94 : decode prog_33_method_10_code 94 = .ok (.iload_n 2, 1) := by decide +kernel
theorem d16_95 : decode prog_33_method_10_code 95 = .ok (.iand, 1) := by decide +kernel
theorem d16_96 : decode prog_33_method_10_code 96 = .ok (.istore 4, 2) := by decide +kernel
theorem d16_98 : decode prog_33_method_10_code 98 = .ok (.goto (-81), 3) := by decide +kernel
theorem d16_54 : decode prog_33_method_10_code 54 = .ok (.aload_n 0, 1) := by decide +kernel
theorem d16_55 : decode prog_33_method_10_code 55 = .ok (.getfield 11, 3) := by decide +kernel
theorem d16_58 : decode prog_33_method_10_code 58 = .ok (.iload_n 3, 1) := by decide +kernel
theorem d16_59 : decode prog_33_method_10_code 59 = .ok (.aload_n 0, 1) := by decide +kernel
theorem d16_60 : decode prog_33_method_10_code 60 = .ok (.getfield 11, 3) := by decide +kernel
theorem d16_63 : decode prog_33_method_10_code 63 = .ok (.iload 4, 2) := by decide +kernel
theorem d16_65 : decode prog_33_method_10_code 65 = .ok (.laload, 1) := by decide +kernel
theorem d16_66 : decode prog_33_method_10_code 66 = .ok (.lastore, 1) := by decide +kernel
theorem d16_67 : decode prog_33_method_10_code 67 = .ok (.aload_n 0, 1) := by decide +kernel
theorem d16_68 : decode prog_33_method_10_code 68 = .ok (.getfield 35, 3) := by decide +kernel
theorem d16_71 : decode prog_33_method_10_code 71 = .ok (.ifnull 16, 3) := by decide +kernel
theorem d16_87 : decode prog_33_method_10_code 87 = .ok (.iload 4, 2) := by decide +kernel
theorem d16_89 : decode prog_33_method_10_code 89 = .ok (.istore_n 3, 1) := by decide +kernel
set_option maxRecDepth 65536 in
set_option maxHeartbeats 40000000 in
theorem rm16_n (l : Launch) (Z : State) (a0 : Array Value) (hw : ∀ d ∈ tables_1, d.before a0 Z = true) (ws : List Jvm.Cond) (o0 : Addr) (u1 : Int32) (ka : Addr) (kf vf : Nat → Int64) (tk : Int32) (mm : Nat) (h0 : Heap) (n0 : Nat) (Z0 : n0 ≤ h0.size) (geo : n0 ≤ o0) (gek : n0 ≤ ka) (nok : o0 ≠ ka) (E0 : Exa Z h0 o0 "com/example/clockwrap/clockwrap/store/LongTable$Part") (Fk : Fld Z h0 o0 "com/example/clockwrap/clockwrap/store/LongTable$Part" "keys" "[J" (.ref ka)) (Fv : Fld Z h0 o0 "com/example/clockwrap/clockwrap/store/LongTable$Part" "values" "[J" .null) (Fs : Fld Z h0 o0 "com/example/clockwrap/clockwrap/store/LongTable$Part" "shift" "I" (.int (60 : Int32))) (Ft : Fld Z h0 o0 "com/example/clockwrap/clockwrap/store/LongTable$Part" "taken" "I" (.int tk)) (Va : Ara Z h0 ka .long 16 (fun i => .long (kf i))) (hP : PI hm kf vf tk mm) (hm10 : mm < 10) (hu0 : ¬ u1 < 0) (hu1 : u1.toNatClampNeg < 16) (hk : kf u1.toNatClampNeg ≠ 0) :
    MetFree l (⟨"com/example/clockwrap/clockwrap/store/LongTable$Part", "free", "(I)V"⟩ : MethodName) (head1 (Jvm.Cond.code (⟨"com/example/clockwrap/clockwrap/store/LongTable$Part", "free", "(I)V"⟩ : MethodName) prog_33_method_10_code 5 none :: ws) ({ frames := 1, cells := 0, slots := 0, locals := 15 } : Room)) (fun a U => a = #[(.ref o0), (.int u1)] ∧ Z.Warmed39 U.vm ∧ U.heap = h0) (fun _ _ _ _ _ => True) (fun _ U o U' => ∃ v L, o = .returned v ∧ (Q_rm16_n Z o0 u1 ka kf vf tk mm h0 n0) v U'.heap L ∧ FrameEnd U o U' L ({ frames := 1, cells := 0, slots := 0, locals := 15 } : Room).cells ({ frames := 1, cells := 0, slots := 0, locals := 15 } : Room).slots) := by
  refine MetFree.of_bodySF (plainFor_of_name pn_1) hisR ?_
  intro p e s m args below meth c s₁ Bd hml0 hP hK
  obtain ⟨rfl, hZ, hh⟩ := hP
  have hx := Bd.exec
  have hby := Bd.bytes
  have hml : c.maxLocals = 5 := hml0
  have hown : s.vm.findClass "com/example/clockwrap/clockwrap/store/LongTable$Part" = some m.cls := findClass_of_methodNamed Bd.named
  have hnm := (name_of_methodNamed Bd.named Bd.method).1
  have X0 : Stand p l e ({ frames := 1, cells := 0, slots := 0, locals := 15 } : Room) s m #[(.ref o0), (.int u1)] below meth c s₁ [] 0 0 := Stand.of_body Bd
  have e0 : s₁.heap = h0 := by rw [← hh, Bd.state]; rfl
  have N0 := Fr.nil n0
  show OFin p e below (ORet (Q_rm16_n Z o0 u1 ka kf vf tk mm h0 n0) s ({ frames := 1, cells := 0, slots := 0, locals := 15 } : Room).cells ({ frames := 1, cells := 0, slots := 0, locals := 15 } : Room).slots) (s₁.setTop (entryFrame m #[(.ref o0), (.int u1)] 5))
  refine OFin.go (fun t k => castTop (ef_rm16_n m o0 u1) k) ?_
  have K0 := Keep.refl h0 [o0, ka]
  obtain ⟨zz, hzz, hz0⟩ := hP.free (by omega)
  show OFin p e below (ORet (Q_rm16_n Z o0 u1 ka kf vf tk mm h0 n0) s ({ frames := 1, cells := 0, slots := 0, locals := 15 } : Room).cells ({ frames := 1, cells := 0, slots := 0, locals := 15 } : Room).slots) (s₁.setTop (mkF m 0 #[.val (.ref o0), .val (.int u1), .unset, .unset, .unset] []))
  have S1 : ∀ t, Steps p.tables e below (s₁.setTop (mkF m 1 #[.val (.ref o0), .val (.int u1), .unset, .unset, .unset] [(.ref o0)])) t → Steps p.tables e below (s₁.setTop (mkF m 0 #[.val (.ref o0), .val (.int u1), .unset, .unset, .unset] [])) t := by
    intro t k
    show Steps p.tables e below (s₁.setTop (mkF m 0 #[.val (.ref o0), .val (.int u1), .unset, .unset, .unset] [])) t
    refine XS.aloadN X0.here hx rfl (hb hby d16_0) rfl rfl ?_
    exact k
  refine OFin.go S1 ?_
  obtain ⟨T2, X2, e2, st2⟩ := getF X0 hx hZ hown (host := "") (Or.inl (hw _ (List.mem_of_getElem? (i := 24) rfl))) Via.refl e0 Fk (g := (mkF m 1 #[.val (.ref o0), .val (.int u1), .unset, .unset, .unset] [(.ref o0)])) rfl rfl (hb hby d16_1)
  refine OFin.go st2 ?_
  show OFin p e below _ (T2.setTop (mkF m 4 #[.val (.ref o0), .val (.int u1), .unset, .unset, .unset] [(.ref ka)]))
  have S3 : ∀ t, Steps p.tables e below (T2.setTop (mkF m 17 #[.val (.ref o0), .val (.int u1), .val (.int (15 : Int32)), .val (.int u1), .val (.int ((u1 + (1 : Int32)) &&& (15 : Int32)))] [])) t → Steps p.tables e below (T2.setTop (mkF m 4 #[.val (.ref o0), .val (.int u1), .unset, .unset, .unset] [(.ref ka)])) t := by
    intro t k
    show Steps p.tables e below (T2.setTop (mkF m 4 #[.val (.ref o0), .val (.int u1), .unset, .unset, .unset] [(.ref ka)])) t
    refine alen X2 hx hZ e2 Va (z := (16 : Int32)) rfl (g := (mkF m 4 #[.val (.ref o0), .val (.int u1), .unset, .unset, .unset] [(.ref ka)])) rfl rfl (hb hby d16_4) ?_
    show Steps p.tables e below (T2.setTop (mkF m 5 #[.val (.ref o0), .val (.int u1), .unset, .unset, .unset] [(.int (16 : Int32))])) t
    refine XS.iconst X2.here hx rfl (hb hby d16_5) ?_
    show Steps p.tables e below (T2.setTop (mkF m 6 #[.val (.ref o0), .val (.int u1), .unset, .unset, .unset] [(.int (1 : Int32)), (.int (16 : Int32))])) t
    refine XS.isub X2.here hx rfl (hb hby d16_6) rfl ?_
    show Steps p.tables e below (T2.setTop (mkF m 7 #[.val (.ref o0), .val (.int u1), .unset, .unset, .unset] [(.int (15 : Int32))])) t
    refine XS.istoreN X2.here hx rfl (hb hby d16_7) rfl (l' := #[.val (.ref o0), .val (.int u1), .val (.int (15 : Int32)), .unset, .unset]) rfl ?_
    show Steps p.tables e below (T2.setTop (mkF m 8 #[.val (.ref o0), .val (.int u1), .val (.int (15 : Int32)), .unset, .unset] [])) t
    refine XS.iloadN X2.here hx rfl (hb hby d16_8) rfl ?_
    show Steps p.tables e below (T2.setTop (mkF m 9 #[.val (.ref o0), .val (.int u1), .val (.int (15 : Int32)), .unset, .unset] [(.int u1)])) t
    refine XS.istoreN X2.here hx rfl (hb hby d16_9) rfl (l' := #[.val (.ref o0), .val (.int u1), .val (.int (15 : Int32)), .val (.int u1), .unset]) rfl ?_
    show Steps p.tables e below (T2.setTop (mkF m 10 #[.val (.ref o0), .val (.int u1), .val (.int (15 : Int32)), .val (.int u1), .unset] [])) t
    refine XS.iloadN X2.here hx rfl (hb hby d16_10) rfl ?_
    show Steps p.tables e below (T2.setTop (mkF m 11 #[.val (.ref o0), .val (.int u1), .val (.int (15 : Int32)), .val (.int u1), .unset] [(.int u1)])) t
    refine XS.iconst X2.here hx rfl (hb hby d16_11) ?_
    show Steps p.tables e below (T2.setTop (mkF m 12 #[.val (.ref o0), .val (.int u1), .val (.int (15 : Int32)), .val (.int u1), .unset] [(.int (1 : Int32)), (.int u1)])) t
    refine XS.iadd X2.here hx rfl (hb hby d16_12) rfl ?_
    show Steps p.tables e below (T2.setTop (mkF m 13 #[.val (.ref o0), .val (.int u1), .val (.int (15 : Int32)), .val (.int u1), .unset] [(.int (u1 + (1 : Int32)))])) t
    refine XS.iloadN X2.here hx rfl (hb hby d16_13) rfl ?_
    show Steps p.tables e below (T2.setTop (mkF m 14 #[.val (.ref o0), .val (.int u1), .val (.int (15 : Int32)), .val (.int u1), .unset] [(.int (15 : Int32)), (.int (u1 + (1 : Int32)))])) t
    refine XS.iand X2.here hx rfl (hb hby d16_14) rfl ?_
    show Steps p.tables e below (T2.setTop (mkF m 15 #[.val (.ref o0), .val (.int u1), .val (.int (15 : Int32)), .val (.int u1), .unset] [(.int ((u1 + (1 : Int32)) &&& (15 : Int32)))])) t
    refine XS.istore X2.here hx rfl (hb hby d16_15) rfl (l' := #[.val (.ref o0), .val (.int u1), .val (.int (15 : Int32)), .val (.int u1), .val (.int ((u1 + (1 : Int32)) &&& (15 : Int32)))]) rfl ?_
    exact k
  refine OFin.go S3 ?_
  have LOOP4 : ∀ (k : Nat) (Tk : State) (lo_ : List Loc) (ce_ sl_ : Nat) (Xk : Stand p l e ({ frames := 1, cells := 0, slots := 0, locals := 15 } : Room) s m #[(.ref o0), (.int u1)] below meth c Tk lo_ ce_ sl_) (Hk : Heap) (ek : Tk.heap = Hk) (Nk : Fr n0 lo_) (hce_ : ce_ ≤ ({ frames := 1, cells := 0, slots := 0, locals := 15 } : Room).cells) (hsl_ : sl_ ≤ ({ frames := 1, cells := 0, slots := 0, locals := 15 } : Room).slots) (Zk : n0 ≤ Hk.size) (Kk : Keep h0 Hk [o0, ka]) (gp : Int32) (nx : Int32) (kg vg : Nat → Int64) (ii : Nat) (Ek : Exa Z Hk o0 "com/example/clockwrap/clockwrap/store/LongTable$Part") (Fkk : Fld Z Hk o0 "com/example/clockwrap/clockwrap/store/LongTable$Part" "keys" "[J" (.ref ka)) (Fvk : Fld Z Hk o0 "com/example/clockwrap/clockwrap/store/LongTable$Part" "values" "[J" .null) (Fsk : Fld Z Hk o0 "com/example/clockwrap/clockwrap/store/LongTable$Part" "shift" "I" (.int (60 : Int32))) (Ftk : Fld Z Hk o0 "com/example/clockwrap/clockwrap/store/LongTable$Part" "taken" "I" (.int tk)) (Vak : Ara Z Hk ka .long 16 (fun i => .long (kg i))), (¬ gp < 0 ∧ ¬ nx < 0 ∧ nx.toNatClampNeg = (gp.toNatClampNeg + ii) % 16 ∧ ii + k < 16 ∧ (nx.toNatClampNeg + k) % 16 = zz ∧ Gap hm kg gp.toNatClampNeg ii ∧ (∀ k v, Oth kg vg gp.toNatClampNeg k v ↔ Oth kf vf u1.toNatClampNeg k v) ∧ (∀ u, u < 16 → kg u ≠ 0 → kf u ≠ 0) ∧ (∀ u, u < 16 → u ≠ gp.toNatClampNeg → kg u = 0 → vg u = 0) ∧ ((∀ i, vf i = 0) → ∀ i, vg i = 0)) → OFin p e below (ORet (Q_rm16_n Z o0 u1 ka kf vf tk mm h0 n0) s ({ frames := 1, cells := 0, slots := 0, locals := 15 } : Room).cells ({ frames := 1, cells := 0, slots := 0, locals := 15 } : Room).slots) (Tk.setTop (mkF m 17 #[.val (.ref o0), .val (.int u1), .val (.int (15 : Int32)), .val (.int gp), .val (.int nx)] [])) := by
    intro k
    induction k with
    | zero =>
      intro Tk lo_ ce_ sl_ Xk Hk ek Nk hce_ hsl_ Zk Kk gp nx kg vg ii Ek Fkk Fvk Fsk Ftk Vak hinv
      obtain ⟨hg0, hn0, hnx, hii, hzk, hG, hO, hfw, hvz, hnv⟩ := hinv
      have hgl := hG.1
      have hnl : nx.toNatClampNeg < 16 := by omega
      have S5 : ∀ t, Steps p.tables e below (Tk.setTop (mkF m 18 #[.val (.ref o0), .val (.int u1), .val (.int (15 : Int32)), .val (.int gp), .val (.int nx)] [(.ref o0)])) t → Steps p.tables e below (Tk.setTop (mkF m 17 #[.val (.ref o0), .val (.int u1), .val (.int (15 : Int32)), .val (.int gp), .val (.int nx)] [])) t := by
        intro t k
        show Steps p.tables e below (Tk.setTop (mkF m 17 #[.val (.ref o0), .val (.int u1), .val (.int (15 : Int32)), .val (.int gp), .val (.int nx)] [])) t
        refine XS.aloadN Xk.here hx rfl (hb hby d16_17) rfl rfl ?_
        exact k
      refine OFin.go S5 ?_
      obtain ⟨T6, X6, e6, st6⟩ := getF Xk hx hZ hown (host := "") (Or.inl (hw _ (List.mem_of_getElem? (i := 24) rfl))) Via.refl ek Fkk (g := (mkF m 18 #[.val (.ref o0), .val (.int u1), .val (.int (15 : Int32)), .val (.int gp), .val (.int nx)] [(.ref o0)])) rfl rfl (hb hby d16_18)
      refine OFin.go st6 ?_
      show OFin p e below _ (T6.setTop (mkF m 21 #[.val (.ref o0), .val (.int u1), .val (.int (15 : Int32)), .val (.int gp), .val (.int nx)] [(.ref ka)]))
      have S7 : ∀ t, Steps p.tables e below (T6.setTop (mkF m 26 #[.val (.ref o0), .val (.int u1), .val (.int (15 : Int32)), .val (.int gp), .val (.int nx)] [(.int (lcmpW (kg nx.toNatClampNeg) (0 : Int64)))])) t → Steps p.tables e below (T6.setTop (mkF m 21 #[.val (.ref o0), .val (.int u1), .val (.int (15 : Int32)), .val (.int gp), .val (.int nx)] [(.ref ka)])) t := by
        intro t k
        show Steps p.tables e below (T6.setTop (mkF m 21 #[.val (.ref o0), .val (.int u1), .val (.int (15 : Int32)), .val (.int gp), .val (.int nx)] [(.ref ka)])) t
        refine XS.iload X6.here hx rfl (hb hby d16_21) rfl ?_
        show Steps p.tables e below (T6.setTop (mkF m 23 #[.val (.ref o0), .val (.int u1), .val (.int (15 : Int32)), .val (.int gp), .val (.int nx)] [(.int nx), (.ref ka)])) t
        refine rdJ X6 hx hZ e6 Vak (i := nx.toNatClampNeg) hn0 rfl hnl (x := (.long (kg nx.toNatClampNeg))) rfl (g := (mkF m 23 #[.val (.ref o0), .val (.int u1), .val (.int (15 : Int32)), .val (.int gp), .val (.int nx)] [(.int nx), (.ref ka)])) rfl rfl (hb hby d16_23) ?_
        show Steps p.tables e below (T6.setTop (mkF m 24 #[.val (.ref o0), .val (.int u1), .val (.int (15 : Int32)), .val (.int gp), .val (.int nx)] [(.long (kg nx.toNatClampNeg))])) t
        refine XS.lconst X6.here hx rfl (hb hby d16_24) ?_
        show Steps p.tables e below (T6.setTop (mkF m 25 #[.val (.ref o0), .val (.int u1), .val (.int (15 : Int32)), .val (.int gp), .val (.int nx)] [(.long (0 : Int64)), (.long (kg nx.toNatClampNeg))])) t
        refine XS.lcmp X6.here hx rfl (hb hby d16_25) rfl ?_
        exact k
      refine OFin.go S7 ?_
      have S8 : ∀ t, Steps p.tables e below (T6.setTop (mkF m 101 #[.val (.ref o0), .val (.int u1), .val (.int (15 : Int32)), .val (.int gp), .val (.int nx)] [])) t → Steps p.tables e below (T6.setTop (mkF m 26 #[.val (.ref o0), .val (.int u1), .val (.int (15 : Int32)), .val (.int gp), .val (.int nx)] [(.int (lcmpW (kg nx.toNatClampNeg) (0 : Int64)))])) t := by
        intro t k
        show Steps p.tables e below (T6.setTop (mkF m 26 #[.val (.ref o0), .val (.int u1), .val (.int (15 : Int32)), .val (.int gp), .val (.int nx)] [(.int (lcmpW (kg nx.toNatClampNeg) (0 : Int64)))])) t
        refine XS.ifYes X6.here hx rfl (pc0 := 26) (pc' := 101) rfl (hb hby d16_26) rfl (lc_eq_t (by rw [show nx.toNatClampNeg = zz by omega]; exact Classical.byContradiction fun q => hfw zz hzz q hz0)) (by decide) (by decide) ?_
        exact k
      refine OFin.go S8 ?_
      have S9 : ∀ t, Steps p.tables e below (T6.setTop (mkF m 102 #[.val (.ref o0), .val (.int u1), .val (.int (15 : Int32)), .val (.int gp), .val (.int nx)] [(.ref o0)])) t → Steps p.tables e below (T6.setTop (mkF m 101 #[.val (.ref o0), .val (.int u1), .val (.int (15 : Int32)), .val (.int gp), .val (.int nx)] [])) t := by
        intro t k
        show Steps p.tables e below (T6.setTop (mkF m 101 #[.val (.ref o0), .val (.int u1), .val (.int (15 : Int32)), .val (.int gp), .val (.int nx)] [])) t
        refine XS.aloadN X6.here hx rfl (hb hby d16_101) rfl rfl ?_
        exact k
      refine OFin.go S9 ?_
      obtain ⟨T10, X10, e10, st10⟩ := getF X6 hx hZ hown (host := "") (Or.inl (hw _ (List.mem_of_getElem? (i := 24) rfl))) Via.refl e6 Fkk (g := (mkF m 102 #[.val (.ref o0), .val (.int u1), .val (.int (15 : Int32)), .val (.int gp), .val (.int nx)] [(.ref o0)])) rfl rfl (hb hby d16_102)
      refine OFin.go st10 ?_
      show OFin p e below _ (T10.setTop (mkF m 105 #[.val (.ref o0), .val (.int u1), .val (.int (15 : Int32)), .val (.int gp), .val (.int nx)] [(.ref ka)]))
      have S11 : ∀ t, Steps p.tables e below (T10.setTop (mkF m 107 #[.val (.ref o0), .val (.int u1), .val (.int (15 : Int32)), .val (.int gp), .val (.int nx)] [(.long (0 : Int64)), (.int gp), (.ref ka)])) t → Steps p.tables e below (T10.setTop (mkF m 105 #[.val (.ref o0), .val (.int u1), .val (.int (15 : Int32)), .val (.int gp), .val (.int nx)] [(.ref ka)])) t := by
        intro t k
        show Steps p.tables e below (T10.setTop (mkF m 105 #[.val (.ref o0), .val (.int u1), .val (.int (15 : Int32)), .val (.int gp), .val (.int nx)] [(.ref ka)])) t
        refine XS.iloadN X10.here hx rfl (hb hby d16_105) rfl ?_
        show Steps p.tables e below (T10.setTop (mkF m 106 #[.val (.ref o0), .val (.int u1), .val (.int (15 : Int32)), .val (.int gp), .val (.int nx)] [(.int gp), (.ref ka)])) t
        refine XS.lconst X10.here hx rfl (hb hby d16_106) ?_
        exact k
      refine OFin.go S11 ?_
      obtain ⟨T12, h12, X12, e12, W12, st12⟩ := wrJ X10 hx hZ e10 Vak (i := gp.toNatClampNeg) hg0 rfl hgl (g := (mkF m 107 #[.val (.ref o0), .val (.int u1), .val (.int (15 : Int32)), .val (.int gp), .val (.int nx)] [(.long (0 : Int64)), (.int gp), (.ref ka)])) rfl rfl (hb hby d16_107)
      have V12 := Vak.set W12
      have N12 := Fr.snoc X12 Nk gek
      have Z12 : n0 ≤ h12.size := Nat.le_trans Zk (wr_le W12)
      have K12 := Keep.wr Kk W12 (Or.inl (List.mem_of_getElem? (i := 1) rfl))
      refine OFin.go st12 ?_
      show OFin p e below _ (T12.setTop (mkF m 108 #[.val (.ref o0), .val (.int u1), .val (.int (15 : Int32)), .val (.int gp), .val (.int nx)] []))
      have S13 : ∀ t, Steps p.tables e below (T12.setTop (mkF m 109 #[.val (.ref o0), .val (.int u1), .val (.int (15 : Int32)), .val (.int gp), .val (.int nx)] [(.ref o0)])) t → Steps p.tables e below (T12.setTop (mkF m 108 #[.val (.ref o0), .val (.int u1), .val (.int (15 : Int32)), .val (.int gp), .val (.int nx)] [])) t := by
        intro t k
        show Steps p.tables e below (T12.setTop (mkF m 108 #[.val (.ref o0), .val (.int u1), .val (.int (15 : Int32)), .val (.int gp), .val (.int nx)] [])) t
        refine XS.aloadN X12.here hx rfl (hb hby d16_108) rfl rfl ?_
        exact k
      refine OFin.go S13 ?_
      have F14 := Fvk.other W12 (Or.inl nok)
      obtain ⟨T15, X15, e15, st15⟩ := getF X12 hx hZ hown (host := "") (Or.inl (hw _ (List.mem_of_getElem? (i := 62) rfl))) Via.refl e12 F14 (g := (mkF m 109 #[.val (.ref o0), .val (.int u1), .val (.int (15 : Int32)), .val (.int gp), .val (.int nx)] [(.ref o0)])) rfl rfl (hb hby d16_109)
      refine OFin.go st15 ?_
      show OFin p e below _ (T15.setTop (mkF m 112 #[.val (.ref o0), .val (.int u1), .val (.int (15 : Int32)), .val (.int gp), .val (.int nx)] [.null]))
      refine OFin.go (fun t k => ?_ : ∀ t, Steps p.tables e below (T15.setTop (mkF m 122 #[.val (.ref o0), .val (.int u1), .val (.int (15 : Int32)), .val (.int gp), .val (.int nx)] [])) t → Steps p.tables e below (T15.setTop (mkF m 112 #[.val (.ref o0), .val (.int u1), .val (.int (15 : Int32)), .val (.int gp), .val (.int nx)] [.null])) t) ?_
      · show Steps p.tables e below (T15.setTop (mkF m 112 #[.val (.ref o0), .val (.int u1), .val (.int (15 : Int32)), .val (.int gp), .val (.int nx)] [.null])) t
        refine XS.ifnullYes X15.here hx rfl (pc0 := 112) (pc' := 122) rfl (hb hby d16_112) rfl (by decide) (by decide) ?_
        exact k
      have F16 := Ek.wr W12
      have F17 := Fkk.other W12 (Or.inl nok)
      have F18 := Fsk.other W12 (Or.inl nok)
      have F19 := Ftk.other W12 (Or.inl nok)
      exact finV X15 hx Bd.notSynchronized Bd.returns (hb hby d16_122) hce_ hsl_ (by rw [e15]; exact ⟨upd kg gp.toNatClampNeg 0, upd vg gp.toNatClampNeg 0, rfl, N12, K12, (F16), (F17), (F14), (F18), (F19), ((V12).congr (fun i _ => own_updl _ _ _ i)), fun tk' q => (own_freed hm_lt hP hk hu1 rfl hG (by omega) (by rw [← hnx]; exact (by rw [show nx.toNatClampNeg = zz by omega]; exact Classical.byContradiction fun q => hfw zz hzz q hz0)) hO hfw hvz q).1, (own_freed hm_lt hP hk hu1 rfl hG (by omega) (by rw [← hnx]; exact (by rw [show nx.toNatClampNeg = zz by omega]; exact Classical.byContradiction fun q => hfw zz hzz q hz0)) hO hfw hvz (own_t hP hm10).2.2).2, fun q => own_upd0 (hnv q) rfl⟩)
    | succ k ih =>
      intro Tk lo_ ce_ sl_ Xk Hk ek Nk hce_ hsl_ Zk Kk gp nx kg vg ii Ek Fkk Fvk Fsk Ftk Vak hinv
      obtain ⟨hg0, hn0, hnx, hii, hzk, hG, hO, hfw, hvz, hnv⟩ := hinv
      have hgl := hG.1
      have hnl : nx.toNatClampNeg < 16 := by omega
      have S20 : ∀ t, Steps p.tables e below (Tk.setTop (mkF m 18 #[.val (.ref o0), .val (.int u1), .val (.int (15 : Int32)), .val (.int gp), .val (.int nx)] [(.ref o0)])) t → Steps p.tables e below (Tk.setTop (mkF m 17 #[.val (.ref o0), .val (.int u1), .val (.int (15 : Int32)), .val (.int gp), .val (.int nx)] [])) t := by
        intro t k
        show Steps p.tables e below (Tk.setTop (mkF m 17 #[.val (.ref o0), .val (.int u1), .val (.int (15 : Int32)), .val (.int gp), .val (.int nx)] [])) t
        refine XS.aloadN Xk.here hx rfl (hb hby d16_17) rfl rfl ?_
        exact k
      refine OFin.go S20 ?_
      obtain ⟨T21, X21, e21, st21⟩ := getF Xk hx hZ hown (host := "") (Or.inl (hw _ (List.mem_of_getElem? (i := 24) rfl))) Via.refl ek Fkk (g := (mkF m 18 #[.val (.ref o0), .val (.int u1), .val (.int (15 : Int32)), .val (.int gp), .val (.int nx)] [(.ref o0)])) rfl rfl (hb hby d16_18)
      refine OFin.go st21 ?_
      show OFin p e below _ (T21.setTop (mkF m 21 #[.val (.ref o0), .val (.int u1), .val (.int (15 : Int32)), .val (.int gp), .val (.int nx)] [(.ref ka)]))
      have S22 : ∀ t, Steps p.tables e below (T21.setTop (mkF m 26 #[.val (.ref o0), .val (.int u1), .val (.int (15 : Int32)), .val (.int gp), .val (.int nx)] [(.int (lcmpW (kg nx.toNatClampNeg) (0 : Int64)))])) t → Steps p.tables e below (T21.setTop (mkF m 21 #[.val (.ref o0), .val (.int u1), .val (.int (15 : Int32)), .val (.int gp), .val (.int nx)] [(.ref ka)])) t := by
        intro t k
        show Steps p.tables e below (T21.setTop (mkF m 21 #[.val (.ref o0), .val (.int u1), .val (.int (15 : Int32)), .val (.int gp), .val (.int nx)] [(.ref ka)])) t
        refine XS.iload X21.here hx rfl (hb hby d16_21) rfl ?_
        show Steps p.tables e below (T21.setTop (mkF m 23 #[.val (.ref o0), .val (.int u1), .val (.int (15 : Int32)), .val (.int gp), .val (.int nx)] [(.int nx), (.ref ka)])) t
        refine rdJ X21 hx hZ e21 Vak (i := nx.toNatClampNeg) hn0 rfl hnl (x := (.long (kg nx.toNatClampNeg))) rfl (g := (mkF m 23 #[.val (.ref o0), .val (.int u1), .val (.int (15 : Int32)), .val (.int gp), .val (.int nx)] [(.int nx), (.ref ka)])) rfl rfl (hb hby d16_23) ?_
        show Steps p.tables e below (T21.setTop (mkF m 24 #[.val (.ref o0), .val (.int u1), .val (.int (15 : Int32)), .val (.int gp), .val (.int nx)] [(.long (kg nx.toNatClampNeg))])) t
        refine XS.lconst X21.here hx rfl (hb hby d16_24) ?_
        show Steps p.tables e below (T21.setTop (mkF m 25 #[.val (.ref o0), .val (.int u1), .val (.int (15 : Int32)), .val (.int gp), .val (.int nx)] [(.long (0 : Int64)), (.long (kg nx.toNatClampNeg))])) t
        refine XS.lcmp X21.here hx rfl (hb hby d16_25) rfl ?_
        exact k
      refine OFin.go S22 ?_
      by_cases h23 : ((kg nx.toNatClampNeg) = (0 : Int64))
      · -- pc 26: ((kg nx.toNatClampNeg) = (0 : Int64))
        have S24 : ∀ t, Steps p.tables e below (T21.setTop (mkF m 101 #[.val (.ref o0), .val (.int u1), .val (.int (15 : Int32)), .val (.int gp), .val (.int nx)] [])) t → Steps p.tables e below (T21.setTop (mkF m 26 #[.val (.ref o0), .val (.int u1), .val (.int (15 : Int32)), .val (.int gp), .val (.int nx)] [(.int (lcmpW (kg nx.toNatClampNeg) (0 : Int64)))])) t := by
          intro t k
          show Steps p.tables e below (T21.setTop (mkF m 26 #[.val (.ref o0), .val (.int u1), .val (.int (15 : Int32)), .val (.int gp), .val (.int nx)] [(.int (lcmpW (kg nx.toNatClampNeg) (0 : Int64)))])) t
          refine XS.ifYes X21.here hx rfl (pc0 := 26) (pc' := 101) rfl (hb hby d16_26) rfl (lc_eq_t h23) (by decide) (by decide) ?_
          exact k
        refine OFin.go S24 ?_
        have S25 : ∀ t, Steps p.tables e below (T21.setTop (mkF m 102 #[.val (.ref o0), .val (.int u1), .val (.int (15 : Int32)), .val (.int gp), .val (.int nx)] [(.ref o0)])) t → Steps p.tables e below (T21.setTop (mkF m 101 #[.val (.ref o0), .val (.int u1), .val (.int (15 : Int32)), .val (.int gp), .val (.int nx)] [])) t := by
          intro t k
          show Steps p.tables e below (T21.setTop (mkF m 101 #[.val (.ref o0), .val (.int u1), .val (.int (15 : Int32)), .val (.int gp), .val (.int nx)] [])) t
          refine XS.aloadN X21.here hx rfl (hb hby d16_101) rfl rfl ?_
          exact k
        refine OFin.go S25 ?_
        obtain ⟨T26, X26, e26, st26⟩ := getF X21 hx hZ hown (host := "") (Or.inl (hw _ (List.mem_of_getElem? (i := 24) rfl))) Via.refl e21 Fkk (g := (mkF m 102 #[.val (.ref o0), .val (.int u1), .val (.int (15 : Int32)), .val (.int gp), .val (.int nx)] [(.ref o0)])) rfl rfl (hb hby d16_102)
        refine OFin.go st26 ?_
        show OFin p e below _ (T26.setTop (mkF m 105 #[.val (.ref o0), .val (.int u1), .val (.int (15 : Int32)), .val (.int gp), .val (.int nx)] [(.ref ka)]))
        have S27 : ∀ t, Steps p.tables e below (T26.setTop (mkF m 107 #[.val (.ref o0), .val (.int u1), .val (.int (15 : Int32)), .val (.int gp), .val (.int nx)] [(.long (0 : Int64)), (.int gp), (.ref ka)])) t → Steps p.tables e below (T26.setTop (mkF m 105 #[.val (.ref o0), .val (.int u1), .val (.int (15 : Int32)), .val (.int gp), .val (.int nx)] [(.ref ka)])) t := by
          intro t k
          show Steps p.tables e below (T26.setTop (mkF m 105 #[.val (.ref o0), .val (.int u1), .val (.int (15 : Int32)), .val (.int gp), .val (.int nx)] [(.ref ka)])) t
          refine XS.iloadN X26.here hx rfl (hb hby d16_105) rfl ?_
          show Steps p.tables e below (T26.setTop (mkF m 106 #[.val (.ref o0), .val (.int u1), .val (.int (15 : Int32)), .val (.int gp), .val (.int nx)] [(.int gp), (.ref ka)])) t
          refine XS.lconst X26.here hx rfl (hb hby d16_106) ?_
          exact k
        refine OFin.go S27 ?_
        obtain ⟨T28, h28, X28, e28, W28, st28⟩ := wrJ X26 hx hZ e26 Vak (i := gp.toNatClampNeg) hg0 rfl hgl (g := (mkF m 107 #[.val (.ref o0), .val (.int u1), .val (.int (15 : Int32)), .val (.int gp), .val (.int nx)] [(.long (0 : Int64)), (.int gp), (.ref ka)])) rfl rfl (hb hby d16_107)
        have V28 := Vak.set W28
        have N28 := Fr.snoc X28 Nk gek
        have Z28 : n0 ≤ h28.size := Nat.le_trans Zk (wr_le W28)
        have K28 := Keep.wr Kk W28 (Or.inl (List.mem_of_getElem? (i := 1) rfl))
        refine OFin.go st28 ?_
        show OFin p e below _ (T28.setTop (mkF m 108 #[.val (.ref o0), .val (.int u1), .val (.int (15 : Int32)), .val (.int gp), .val (.int nx)] []))
        have S29 : ∀ t, Steps p.tables e below (T28.setTop (mkF m 109 #[.val (.ref o0), .val (.int u1), .val (.int (15 : Int32)), .val (.int gp), .val (.int nx)] [(.ref o0)])) t → Steps p.tables e below (T28.setTop (mkF m 108 #[.val (.ref o0), .val (.int u1), .val (.int (15 : Int32)), .val (.int gp), .val (.int nx)] [])) t := by
          intro t k
          show Steps p.tables e below (T28.setTop (mkF m 108 #[.val (.ref o0), .val (.int u1), .val (.int (15 : Int32)), .val (.int gp), .val (.int nx)] [])) t
          refine XS.aloadN X28.here hx rfl (hb hby d16_108) rfl rfl ?_
          exact k
        refine OFin.go S29 ?_
        have F30 := Fvk.other W28 (Or.inl nok)
        obtain ⟨T31, X31, e31, st31⟩ := getF X28 hx hZ hown (host := "") (Or.inl (hw _ (List.mem_of_getElem? (i := 62) rfl))) Via.refl e28 F30 (g := (mkF m 109 #[.val (.ref o0), .val (.int u1), .val (.int (15 : Int32)), .val (.int gp), .val (.int nx)] [(.ref o0)])) rfl rfl (hb hby d16_109)
        refine OFin.go st31 ?_
        show OFin p e below _ (T31.setTop (mkF m 112 #[.val (.ref o0), .val (.int u1), .val (.int (15 : Int32)), .val (.int gp), .val (.int nx)] [.null]))
        refine OFin.go (fun t k => ?_ : ∀ t, Steps p.tables e below (T31.setTop (mkF m 122 #[.val (.ref o0), .val (.int u1), .val (.int (15 : Int32)), .val (.int gp), .val (.int nx)] [])) t → Steps p.tables e below (T31.setTop (mkF m 112 #[.val (.ref o0), .val (.int u1), .val (.int (15 : Int32)), .val (.int gp), .val (.int nx)] [.null])) t) ?_
        · show Steps p.tables e below (T31.setTop (mkF m 112 #[.val (.ref o0), .val (.int u1), .val (.int (15 : Int32)), .val (.int gp), .val (.int nx)] [.null])) t
          refine XS.ifnullYes X31.here hx rfl (pc0 := 112) (pc' := 122) rfl (hb hby d16_112) rfl (by decide) (by decide) ?_
          exact k
        have F32 := Ek.wr W28
        have F33 := Fkk.other W28 (Or.inl nok)
        have F34 := Fsk.other W28 (Or.inl nok)
        have F35 := Ftk.other W28 (Or.inl nok)
        exact finV X31 hx Bd.notSynchronized Bd.returns (hb hby d16_122) hce_ hsl_ (by rw [e31]; exact ⟨upd kg gp.toNatClampNeg 0, upd vg gp.toNatClampNeg 0, rfl, N28, K28, (F32), (F33), (F30), (F34), (F35), ((V28).congr (fun i _ => own_updl _ _ _ i)), fun tk' q => (own_freed hm_lt hP hk hu1 rfl hG (by omega) (by rw [← hnx]; exact h23) hO hfw hvz q).1, (own_freed hm_lt hP hk hu1 rfl hG (by omega) (by rw [← hnx]; exact h23) hO hfw hvz (own_t hP hm10).2.2).2, fun q => own_upd0 (hnv q) rfl⟩)
      · -- pc 26: not ((kg nx.toNatClampNeg) = (0 : Int64))
        have S36 : ∀ t, Steps p.tables e below (T21.setTop (mkF m 29 #[.val (.ref o0), .val (.int u1), .val (.int (15 : Int32)), .val (.int gp), .val (.int nx)] [])) t → Steps p.tables e below (T21.setTop (mkF m 26 #[.val (.ref o0), .val (.int u1), .val (.int (15 : Int32)), .val (.int gp), .val (.int nx)] [(.int (lcmpW (kg nx.toNatClampNeg) (0 : Int64)))])) t := by
          intro t k
          show Steps p.tables e below (T21.setTop (mkF m 26 #[.val (.ref o0), .val (.int u1), .val (.int (15 : Int32)), .val (.int gp), .val (.int nx)] [(.int (lcmpW (kg nx.toNatClampNeg) (0 : Int64)))])) t
          refine XS.ifNo X21.here hx rfl (hb hby d16_26) rfl (lc_eq_f h23) ?_
          exact k
        refine OFin.go S36 ?_
        have S37 : ∀ t, Steps p.tables e below (T21.setTop (mkF m 33 #[.val (.ref o0), .val (.int u1), .val (.int (15 : Int32)), .val (.int gp), .val (.int nx)] [(.ref o0), (.ref o0), (.int nx)])) t → Steps p.tables e below (T21.setTop (mkF m 29 #[.val (.ref o0), .val (.int u1), .val (.int (15 : Int32)), .val (.int gp), .val (.int nx)] [])) t := by
          intro t k
          show Steps p.tables e below (T21.setTop (mkF m 29 #[.val (.ref o0), .val (.int u1), .val (.int (15 : Int32)), .val (.int gp), .val (.int nx)] [])) t
          refine XS.iload X21.here hx rfl (hb hby d16_29) rfl ?_
          show Steps p.tables e below (T21.setTop (mkF m 31 #[.val (.ref o0), .val (.int u1), .val (.int (15 : Int32)), .val (.int gp), .val (.int nx)] [(.int nx)])) t
          refine XS.aloadN X21.here hx rfl (hb hby d16_31) rfl rfl ?_
          show Steps p.tables e below (T21.setTop (mkF m 32 #[.val (.ref o0), .val (.int u1), .val (.int (15 : Int32)), .val (.int gp), .val (.int nx)] [(.ref o0), (.int nx)])) t
          refine XS.aloadN X21.here hx rfl (hb hby d16_32) rfl rfl ?_
          exact k
        refine OFin.go S37 ?_
        obtain ⟨T38, X38, e38, st38⟩ := getF X21 hx hZ hown (host := "") (Or.inl (hw _ (List.mem_of_getElem? (i := 24) rfl))) Via.refl e21 Fkk (g := (mkF m 33 #[.val (.ref o0), .val (.int u1), .val (.int (15 : Int32)), .val (.int gp), .val (.int nx)] [(.ref o0), (.ref o0), (.int nx)])) rfl rfl (hb hby d16_33)
        refine OFin.go st38 ?_
        show OFin p e below _ (T38.setTop (mkF m 36 #[.val (.ref o0), .val (.int u1), .val (.int (15 : Int32)), .val (.int gp), .val (.int nx)] [(.ref ka), (.ref o0), (.int nx)]))
        have S39 : ∀ t, Steps p.tables e below (T38.setTop (mkF m 39 #[.val (.ref o0), .val (.int u1), .val (.int (15 : Int32)), .val (.int gp), .val (.int nx)] [(.long (kg nx.toNatClampNeg)), (.ref o0), (.int nx)])) t → Steps p.tables e below (T38.setTop (mkF m 36 #[.val (.ref o0), .val (.int u1), .val (.int (15 : Int32)), .val (.int gp), .val (.int nx)] [(.ref ka), (.ref o0), (.int nx)])) t := by
          intro t k
          show Steps p.tables e below (T38.setTop (mkF m 36 #[.val (.ref o0), .val (.int u1), .val (.int (15 : Int32)), .val (.int gp), .val (.int nx)] [(.ref ka), (.ref o0), (.int nx)])) t
          refine XS.iload X38.here hx rfl (hb hby d16_36) rfl ?_
          show Steps p.tables e below (T38.setTop (mkF m 38 #[.val (.ref o0), .val (.int u1), .val (.int (15 : Int32)), .val (.int gp), .val (.int nx)] [(.int nx), (.ref ka), (.ref o0), (.int nx)])) t
          refine rdJ X38 hx hZ e38 Vak (i := nx.toNatClampNeg) hn0 rfl hnl (x := (.long (kg nx.toNatClampNeg))) rfl (g := (mkF m 38 #[.val (.ref o0), .val (.int u1), .val (.int (15 : Int32)), .val (.int gp), .val (.int nx)] [(.int nx), (.ref ka), (.ref o0), (.int nx)])) rfl rfl (hb hby d16_38) ?_
          exact k
        refine OFin.go S39 ?_
        obtain ⟨_, T40, Lc40, X40, hQ40, st40⟩ := privQ X38 hx hZ (y := (⟨"com/example/clockwrap/clockwrap/store/LongTable$Part", "home", "(J)I"⟩ : MethodName)) hown (hw _ (List.mem_of_getElem? (i := 53) rfl)) (hw _ (List.mem_of_getElem? (i := 54) rfl)) (hw _ (List.mem_of_getElem? (i := 18) rfl)) (hw _ (List.mem_of_getElem? (i := 56) rfl)) (hw _ (List.mem_of_getElem? (i := 55) rfl)) (hw _ (List.mem_of_getElem? (i := 17) rfl)) (by decide) Ek (argsL := [(.long (kg nx.toNatClampNeg))]) (rest := [(.int nx)]) (rm9 l Z a0 hw [] o0 (kg nx.toNatClampNeg) Hk n0 Zk Fsk) (W := 1) (by decide) (by decide) e38 (g := (mkF m 39 #[.val (.ref o0), .val (.int u1), .val (.int (15 : Int32)), .val (.int gp), .val (.int nx)] [(.long (kg nx.toNatClampNeg)), (.ref o0), (.int nx)])) rfl (by rw [hml]; rfl) (lenOf pd_1 rfl) rfl (by show 2 * 0 + _ ≤ _; exact Nat.le_of_eq rfl) (hb hby d16_39) (by first | exact Nat.le_of_ble_eq_true rfl | exact hce_) (by first | exact Nat.le_of_ble_eq_true rfl | exact hsl_)
        obtain ⟨rfl, N40q, e40⟩ := hQ40
        have N40 := Fr.app Nk N40q
        refine OFin.go st40 ?_
        show OFin p e below _ (T40.setTop (mkF m 42 #[.val (.ref o0), .val (.int u1), .val (.int (15 : Int32)), .val (.int gp), .val (.int nx)] [(.int (hmI (kg nx.toNatClampNeg))), (.int nx)]))
        have S41 : ∀ t, Steps p.tables e below (T40.setTop (mkF m 51 #[.val (.ref o0), .val (.int u1), .val (.int (15 : Int32)), .val (.int gp), .val (.int nx)] [(.int ((nx - gp) &&& (15 : Int32))), (.int ((nx - (hmI (kg nx.toNatClampNeg))) &&& (15 : Int32)))])) t → Steps p.tables e below (T40.setTop (mkF m 42 #[.val (.ref o0), .val (.int u1), .val (.int (15 : Int32)), .val (.int gp), .val (.int nx)] [(.int (hmI (kg nx.toNatClampNeg))), (.int nx)])) t := by
          intro t k
          show Steps p.tables e below (T40.setTop (mkF m 42 #[.val (.ref o0), .val (.int u1), .val (.int (15 : Int32)), .val (.int gp), .val (.int nx)] [(.int (hmI (kg nx.toNatClampNeg))), (.int nx)])) t
          refine XS.isub X40.here hx rfl (hb hby d16_42) rfl ?_
          show Steps p.tables e below (T40.setTop (mkF m 43 #[.val (.ref o0), .val (.int u1), .val (.int (15 : Int32)), .val (.int gp), .val (.int nx)] [(.int (nx - (hmI (kg nx.toNatClampNeg))))])) t
          refine XS.iloadN X40.here hx rfl (hb hby d16_43) rfl ?_
          show Steps p.tables e below (T40.setTop (mkF m 44 #[.val (.ref o0), .val (.int u1), .val (.int (15 : Int32)), .val (.int gp), .val (.int nx)] [(.int (15 : Int32)), (.int (nx - (hmI (kg nx.toNatClampNeg))))])) t
          refine XS.iand X40.here hx rfl (hb hby d16_44) rfl ?_
          show Steps p.tables e below (T40.setTop (mkF m 45 #[.val (.ref o0), .val (.int u1), .val (.int (15 : Int32)), .val (.int gp), .val (.int nx)] [(.int ((nx - (hmI (kg nx.toNatClampNeg))) &&& (15 : Int32)))])) t
          refine XS.iload X40.here hx rfl (hb hby d16_45) rfl ?_
          show Steps p.tables e below (T40.setTop (mkF m 47 #[.val (.ref o0), .val (.int u1), .val (.int (15 : Int32)), .val (.int gp), .val (.int nx)] [(.int nx), (.int ((nx - (hmI (kg nx.toNatClampNeg))) &&& (15 : Int32)))])) t
          refine XS.iloadN X40.here hx rfl (hb hby d16_47) rfl ?_
          show Steps p.tables e below (T40.setTop (mkF m 48 #[.val (.ref o0), .val (.int u1), .val (.int (15 : Int32)), .val (.int gp), .val (.int nx)] [(.int gp), (.int nx), (.int ((nx - (hmI (kg nx.toNatClampNeg))) &&& (15 : Int32)))])) t
          refine XS.isub X40.here hx rfl (hb hby d16_48) rfl ?_
          show Steps p.tables e below (T40.setTop (mkF m 49 #[.val (.ref o0), .val (.int u1), .val (.int (15 : Int32)), .val (.int gp), .val (.int nx)] [(.int (nx - gp)), (.int ((nx - (hmI (kg nx.toNatClampNeg))) &&& (15 : Int32)))])) t
          refine XS.iloadN X40.here hx rfl (hb hby d16_49) rfl ?_
          show Steps p.tables e below (T40.setTop (mkF m 50 #[.val (.ref o0), .val (.int u1), .val (.int (15 : Int32)), .val (.int gp), .val (.int nx)] [(.int (15 : Int32)), (.int (nx - gp)), (.int ((nx - (hmI (kg nx.toNatClampNeg))) &&& (15 : Int32)))])) t
          refine XS.iand X40.here hx rfl (hb hby d16_50) rfl ?_
          exact k
        refine OFin.go S41 ?_
        by_cases h42 : (((nx - (hmI (kg nx.toNatClampNeg))) &&& (15 : Int32)) < ((nx - gp) &&& (15 : Int32)))
        · -- pc 51: (((nx - (hmI (kg nx.toNatClampNeg))) &&& (15 : Int32)) < ((nx - gp) &&& (15 : Int32)))
          have S43 : ∀ t, Steps p.tables e below (T40.setTop (mkF m 90 #[.val (.ref o0), .val (.int u1), .val (.int (15 : Int32)), .val (.int gp), .val (.int nx)] [])) t → Steps p.tables e below (T40.setTop (mkF m 51 #[.val (.ref o0), .val (.int u1), .val (.int (15 : Int32)), .val (.int gp), .val (.int nx)] [(.int ((nx - gp) &&& (15 : Int32))), (.int ((nx - (hmI (kg nx.toNatClampNeg))) &&& (15 : Int32)))])) t := by
            intro t k
            show Steps p.tables e below (T40.setTop (mkF m 51 #[.val (.ref o0), .val (.int u1), .val (.int (15 : Int32)), .val (.int gp), .val (.int nx)] [(.int ((nx - gp) &&& (15 : Int32))), (.int ((nx - (hmI (kg nx.toNatClampNeg))) &&& (15 : Int32)))])) t
            refine XS.icmpYes X40.here hx rfl (pc0 := 51) (pc' := 90) rfl (hb hby d16_51) rfl (tlt h42).1 (by decide) (by decide) ?_
            exact k
          refine OFin.go S43 ?_
          have S44 : ∀ t, Steps p.tables e below (T40.setTop (mkF m 17 #[.val (.ref o0), .val (.int u1), .val (.int (15 : Int32)), .val (.int gp), .val (.int ((nx + (1 : Int32)) &&& (15 : Int32)))] [])) t → Steps p.tables e below (T40.setTop (mkF m 90 #[.val (.ref o0), .val (.int u1), .val (.int (15 : Int32)), .val (.int gp), .val (.int nx)] [])) t := by
            intro t k
            show Steps p.tables e below (T40.setTop (mkF m 90 #[.val (.ref o0), .val (.int u1), .val (.int (15 : Int32)), .val (.int gp), .val (.int nx)] [])) t
            refine XS.iload X40.here hx rfl (hb hby d16_90) rfl ?_
            show Steps p.tables e below (T40.setTop (mkF m 92 #[.val (.ref o0), .val (.int u1), .val (.int (15 : Int32)), .val (.int gp), .val (.int nx)] [(.int nx)])) t
            refine XS.iconst X40.here hx rfl (hb hby d16_92) ?_
            show Steps p.tables e below (T40.setTop (mkF m 93 #[.val (.ref o0), .val (.int u1), .val (.int (15 : Int32)), .val (.int gp), .val (.int nx)] [(.int (1 : Int32)), (.int nx)])) t
            refine XS.iadd X40.here hx rfl (hb hby d16_93) rfl ?_
            show Steps p.tables e below (T40.setTop (mkF m 94 #[.val (.ref o0), .val (.int u1), .val (.int (15 : Int32)), .val (.int gp), .val (.int nx)] [(.int (nx + (1 : Int32)))])) t
            refine XS.iloadN X40.here hx rfl (hb hby d16_94) rfl ?_
            show Steps p.tables e below (T40.setTop (mkF m 95 #[.val (.ref o0), .val (.int u1), .val (.int (15 : Int32)), .val (.int gp), .val (.int nx)] [(.int (15 : Int32)), (.int (nx + (1 : Int32)))])) t
            refine XS.iand X40.here hx rfl (hb hby d16_95) rfl ?_
            show Steps p.tables e below (T40.setTop (mkF m 96 #[.val (.ref o0), .val (.int u1), .val (.int (15 : Int32)), .val (.int gp), .val (.int nx)] [(.int ((nx + (1 : Int32)) &&& (15 : Int32)))])) t
            refine XS.istore X40.here hx rfl (hb hby d16_96) rfl (l' := #[.val (.ref o0), .val (.int u1), .val (.int (15 : Int32)), .val (.int gp), .val (.int ((nx + (1 : Int32)) &&& (15 : Int32)))]) rfl ?_
            show Steps p.tables e below (T40.setTop (mkF m 98 #[.val (.ref o0), .val (.int u1), .val (.int (15 : Int32)), .val (.int gp), .val (.int ((nx + (1 : Int32)) &&& (15 : Int32)))] [])) t
            refine XS.goto X40.here hx rfl (pc0 := 98) (pc' := 17) rfl (hb hby d16_98) (by decide) (by decide) ?_
            exact k
          refine OFin.go S44 ?_
          exact ih T40 _ _ _ X40 _ e40 N40 (by first | assumption | decide) (by first | assumption | decide) Zk Kk gp ((nx + (1 : Int32)) &&& (15 : Int32)) kg vg (ii + 1) (Ek) (Fkk) (Fvk) (Fsk) (Ftk) (Vak) ⟨hg0, (own_nx hn0 hnl).1, by rw [(own_nx hn0 hnl).2]; omega, by omega, by rw [(own_nx hn0 hnl).2]; omega, own_skipW hg0 hn0 hnx (by omega) hG h23 h42, hO, hfw, hvz, hnv⟩
        · -- pc 51: not (((nx - (hmI (kg nx.toNatClampNeg))) &&& (15 : Int32)) < ((nx - gp) &&& (15 : Int32)))
          have S45 : ∀ t, Steps p.tables e below (T40.setTop (mkF m 54 #[.val (.ref o0), .val (.int u1), .val (.int (15 : Int32)), .val (.int gp), .val (.int nx)] [])) t → Steps p.tables e below (T40.setTop (mkF m 51 #[.val (.ref o0), .val (.int u1), .val (.int (15 : Int32)), .val (.int gp), .val (.int nx)] [(.int ((nx - gp) &&& (15 : Int32))), (.int ((nx - (hmI (kg nx.toNatClampNeg))) &&& (15 : Int32)))])) t := by
            intro t k
            show Steps p.tables e below (T40.setTop (mkF m 51 #[.val (.ref o0), .val (.int u1), .val (.int (15 : Int32)), .val (.int gp), .val (.int nx)] [(.int ((nx - gp) &&& (15 : Int32))), (.int ((nx - (hmI (kg nx.toNatClampNeg))) &&& (15 : Int32)))])) t
            refine XS.icmpNo X40.here hx rfl (hb hby d16_51) rfl (flt h42).1 ?_
            exact k
          refine OFin.go S45 ?_
          have S46 : ∀ t, Steps p.tables e below (T40.setTop (mkF m 55 #[.val (.ref o0), .val (.int u1), .val (.int (15 : Int32)), .val (.int gp), .val (.int nx)] [(.ref o0)])) t → Steps p.tables e below (T40.setTop (mkF m 54 #[.val (.ref o0), .val (.int u1), .val (.int (15 : Int32)), .val (.int gp), .val (.int nx)] [])) t := by
            intro t k
            show Steps p.tables e below (T40.setTop (mkF m 54 #[.val (.ref o0), .val (.int u1), .val (.int (15 : Int32)), .val (.int gp), .val (.int nx)] [])) t
            refine XS.aloadN X40.here hx rfl (hb hby d16_54) rfl rfl ?_
            exact k
          refine OFin.go S46 ?_
          obtain ⟨T47, X47, e47, st47⟩ := getF X40 hx hZ hown (host := "") (Or.inl (hw _ (List.mem_of_getElem? (i := 24) rfl))) Via.refl e40 Fkk (g := (mkF m 55 #[.val (.ref o0), .val (.int u1), .val (.int (15 : Int32)), .val (.int gp), .val (.int nx)] [(.ref o0)])) rfl rfl (hb hby d16_55)
          refine OFin.go st47 ?_
          show OFin p e below _ (T47.setTop (mkF m 58 #[.val (.ref o0), .val (.int u1), .val (.int (15 : Int32)), .val (.int gp), .val (.int nx)] [(.ref ka)]))
          have S48 : ∀ t, Steps p.tables e below (T47.setTop (mkF m 60 #[.val (.ref o0), .val (.int u1), .val (.int (15 : Int32)), .val (.int gp), .val (.int nx)] [(.ref o0), (.int gp), (.ref ka)])) t → Steps p.tables e below (T47.setTop (mkF m 58 #[.val (.ref o0), .val (.int u1), .val (.int (15 : Int32)), .val (.int gp), .val (.int nx)] [(.ref ka)])) t := by
            intro t k
            show Steps p.tables e below (T47.setTop (mkF m 58 #[.val (.ref o0), .val (.int u1), .val (.int (15 : Int32)), .val (.int gp), .val (.int nx)] [(.ref ka)])) t
            refine XS.iloadN X47.here hx rfl (hb hby d16_58) rfl ?_
            show Steps p.tables e below (T47.setTop (mkF m 59 #[.val (.ref o0), .val (.int u1), .val (.int (15 : Int32)), .val (.int gp), .val (.int nx)] [(.int gp), (.ref ka)])) t
            refine XS.aloadN X47.here hx rfl (hb hby d16_59) rfl rfl ?_
            exact k
          refine OFin.go S48 ?_
          obtain ⟨T49, X49, e49, st49⟩ := getF X47 hx hZ hown (host := "") (Or.inl (hw _ (List.mem_of_getElem? (i := 24) rfl))) Via.refl e47 Fkk (g := (mkF m 60 #[.val (.ref o0), .val (.int u1), .val (.int (15 : Int32)), .val (.int gp), .val (.int nx)] [(.ref o0), (.int gp), (.ref ka)])) rfl rfl (hb hby d16_60)
          refine OFin.go st49 ?_
          show OFin p e below _ (T49.setTop (mkF m 63 #[.val (.ref o0), .val (.int u1), .val (.int (15 : Int32)), .val (.int gp), .val (.int nx)] [(.ref ka), (.int gp), (.ref ka)]))
          have S50 : ∀ t, Steps p.tables e below (T49.setTop (mkF m 66 #[.val (.ref o0), .val (.int u1), .val (.int (15 : Int32)), .val (.int gp), .val (.int nx)] [(.long (kg nx.toNatClampNeg)), (.int gp), (.ref ka)])) t → Steps p.tables e below (T49.setTop (mkF m 63 #[.val (.ref o0), .val (.int u1), .val (.int (15 : Int32)), .val (.int gp), .val (.int nx)] [(.ref ka), (.int gp), (.ref ka)])) t := by
            intro t k
            show Steps p.tables e below (T49.setTop (mkF m 63 #[.val (.ref o0), .val (.int u1), .val (.int (15 : Int32)), .val (.int gp), .val (.int nx)] [(.ref ka), (.int gp), (.ref ka)])) t
            refine XS.iload X49.here hx rfl (hb hby d16_63) rfl ?_
            show Steps p.tables e below (T49.setTop (mkF m 65 #[.val (.ref o0), .val (.int u1), .val (.int (15 : Int32)), .val (.int gp), .val (.int nx)] [(.int nx), (.ref ka), (.int gp), (.ref ka)])) t
            refine rdJ X49 hx hZ e49 Vak (i := nx.toNatClampNeg) hn0 rfl hnl (x := (.long (kg nx.toNatClampNeg))) rfl (g := (mkF m 65 #[.val (.ref o0), .val (.int u1), .val (.int (15 : Int32)), .val (.int gp), .val (.int nx)] [(.int nx), (.ref ka), (.int gp), (.ref ka)])) rfl rfl (hb hby d16_65) ?_
            exact k
          refine OFin.go S50 ?_
          obtain ⟨T51, h51, X51, e51, W51, st51⟩ := wrJ X49 hx hZ e49 Vak (i := gp.toNatClampNeg) hg0 rfl hgl (g := (mkF m 66 #[.val (.ref o0), .val (.int u1), .val (.int (15 : Int32)), .val (.int gp), .val (.int nx)] [(.long (kg nx.toNatClampNeg)), (.int gp), (.ref ka)])) rfl rfl (hb hby d16_66)
          have V51 := Vak.set W51
          have N51 := Fr.snoc X51 N40 gek
          have Z51 : n0 ≤ h51.size := Nat.le_trans Zk (wr_le W51)
          have K51 := Keep.wr Kk W51 (Or.inl (List.mem_of_getElem? (i := 1) rfl))
          refine OFin.go st51 ?_
          show OFin p e below _ (T51.setTop (mkF m 67 #[.val (.ref o0), .val (.int u1), .val (.int (15 : Int32)), .val (.int gp), .val (.int nx)] []))
          have S52 : ∀ t, Steps p.tables e below (T51.setTop (mkF m 68 #[.val (.ref o0), .val (.int u1), .val (.int (15 : Int32)), .val (.int gp), .val (.int nx)] [(.ref o0)])) t → Steps p.tables e below (T51.setTop (mkF m 67 #[.val (.ref o0), .val (.int u1), .val (.int (15 : Int32)), .val (.int gp), .val (.int nx)] [])) t := by
            intro t k
            show Steps p.tables e below (T51.setTop (mkF m 67 #[.val (.ref o0), .val (.int u1), .val (.int (15 : Int32)), .val (.int gp), .val (.int nx)] [])) t
            refine XS.aloadN X51.here hx rfl (hb hby d16_67) rfl rfl ?_
            exact k
          refine OFin.go S52 ?_
          have F53 := Fvk.other W51 (Or.inl nok)
          obtain ⟨T54, X54, e54, st54⟩ := getF X51 hx hZ hown (host := "") (Or.inl (hw _ (List.mem_of_getElem? (i := 62) rfl))) Via.refl e51 F53 (g := (mkF m 68 #[.val (.ref o0), .val (.int u1), .val (.int (15 : Int32)), .val (.int gp), .val (.int nx)] [(.ref o0)])) rfl rfl (hb hby d16_68)
          refine OFin.go st54 ?_
          show OFin p e below _ (T54.setTop (mkF m 71 #[.val (.ref o0), .val (.int u1), .val (.int (15 : Int32)), .val (.int gp), .val (.int nx)] [.null]))
          refine OFin.go (fun t k => ?_ : ∀ t, Steps p.tables e below (T54.setTop (mkF m 87 #[.val (.ref o0), .val (.int u1), .val (.int (15 : Int32)), .val (.int gp), .val (.int nx)] [])) t → Steps p.tables e below (T54.setTop (mkF m 71 #[.val (.ref o0), .val (.int u1), .val (.int (15 : Int32)), .val (.int gp), .val (.int nx)] [.null])) t) ?_
          · show Steps p.tables e below (T54.setTop (mkF m 71 #[.val (.ref o0), .val (.int u1), .val (.int (15 : Int32)), .val (.int gp), .val (.int nx)] [.null])) t
            refine XS.ifnullYes X54.here hx rfl (pc0 := 71) (pc' := 87) rfl (hb hby d16_71) rfl (by decide) (by decide) ?_
            exact k
          have S55 : ∀ t, Steps p.tables e below (T54.setTop (mkF m 17 #[.val (.ref o0), .val (.int u1), .val (.int (15 : Int32)), .val (.int nx), .val (.int ((nx + (1 : Int32)) &&& (15 : Int32)))] [])) t → Steps p.tables e below (T54.setTop (mkF m 87 #[.val (.ref o0), .val (.int u1), .val (.int (15 : Int32)), .val (.int gp), .val (.int nx)] [])) t := by
            intro t k
            show Steps p.tables e below (T54.setTop (mkF m 87 #[.val (.ref o0), .val (.int u1), .val (.int (15 : Int32)), .val (.int gp), .val (.int nx)] [])) t
            refine XS.iload X54.here hx rfl (hb hby d16_87) rfl ?_
            show Steps p.tables e below (T54.setTop (mkF m 89 #[.val (.ref o0), .val (.int u1), .val (.int (15 : Int32)), .val (.int gp), .val (.int nx)] [(.int nx)])) t
            refine XS.istoreN X54.here hx rfl (hb hby d16_89) rfl (l' := #[.val (.ref o0), .val (.int u1), .val (.int (15 : Int32)), .val (.int nx), .val (.int nx)]) rfl ?_
            show Steps p.tables e below (T54.setTop (mkF m 90 #[.val (.ref o0), .val (.int u1), .val (.int (15 : Int32)), .val (.int nx), .val (.int nx)] [])) t
            refine XS.iload X54.here hx rfl (hb hby d16_90) rfl ?_
            show Steps p.tables e below (T54.setTop (mkF m 92 #[.val (.ref o0), .val (.int u1), .val (.int (15 : Int32)), .val (.int nx), .val (.int nx)] [(.int nx)])) t
            refine XS.iconst X54.here hx rfl (hb hby d16_92) ?_
            show Steps p.tables e below (T54.setTop (mkF m 93 #[.val (.ref o0), .val (.int u1), .val (.int (15 : Int32)), .val (.int nx), .val (.int nx)] [(.int (1 : Int32)), (.int nx)])) t
            refine XS.iadd X54.here hx rfl (hb hby d16_93) rfl ?_
            show Steps p.tables e below (T54.setTop (mkF m 94 #[.val (.ref o0), .val (.int u1), .val (.int (15 : Int32)), .val (.int nx), .val (.int nx)] [(.int (nx + (1 : Int32)))])) t
            refine XS.iloadN X54.here hx rfl (hb hby d16_94) rfl ?_
            show Steps p.tables e below (T54.setTop (mkF m 95 #[.val (.ref o0), .val (.int u1), .val (.int (15 : Int32)), .val (.int nx), .val (.int nx)] [(.int (15 : Int32)), (.int (nx + (1 : Int32)))])) t
            refine XS.iand X54.here hx rfl (hb hby d16_95) rfl ?_
            show Steps p.tables e below (T54.setTop (mkF m 96 #[.val (.ref o0), .val (.int u1), .val (.int (15 : Int32)), .val (.int nx), .val (.int nx)] [(.int ((nx + (1 : Int32)) &&& (15 : Int32)))])) t
            refine XS.istore X54.here hx rfl (hb hby d16_96) rfl (l' := #[.val (.ref o0), .val (.int u1), .val (.int (15 : Int32)), .val (.int nx), .val (.int ((nx + (1 : Int32)) &&& (15 : Int32)))]) rfl ?_
            show Steps p.tables e below (T54.setTop (mkF m 98 #[.val (.ref o0), .val (.int u1), .val (.int (15 : Int32)), .val (.int nx), .val (.int ((nx + (1 : Int32)) &&& (15 : Int32)))] [])) t
            refine XS.goto X54.here hx rfl (pc0 := 98) (pc' := 17) rfl (hb hby d16_98) (by decide) (by decide) ?_
            exact k
          refine OFin.go S55 ?_
          have F56 := Ek.wr W51
          have F57 := Fkk.other W51 (Or.inl nok)
          have F58 := Fsk.other W51 (Or.inl nok)
          have F59 := Ftk.other W51 (Or.inl nok)
          exact ih T54 _ _ _ X54 _ e54 N51 (by first | assumption | decide) (by first | assumption | decide) Z51 K51 nx ((nx + (1 : Int32)) &&& (15 : Int32)) (upd kg gp.toNatClampNeg (kg nx.toNatClampNeg)) (upd vg gp.toNatClampNeg (vg nx.toNatClampNeg)) 1 (F56) (F57) (F53) (F58) (F59) ((V51).congr (fun i _ => own_updl _ _ _ i)) ⟨hn0, (own_nx hn0 hnl).1, by rw [(own_nx hn0 hnl).2], by omega, by rw [(own_nx hn0 hnl).2]; omega, own_moveW hg0 hn0 hnx (by omega) hG h23 h42, fun k v => (own_moveO hgl hnl (by have := hG.2.1; omega) k v).trans (hO k v), own_moveN hnl hfw hG.2.2.2.1, own_moveV h23 hvz, fun q => own_upd0 (hnv q) (hnv q _)⟩
  exact LOOP4 ((zz + 31 - u1.toNatClampNeg) % 16) T2 _ _ _ X2 _ e2 N0 (by first | assumption | decide) (by first | assumption | decide) Z0 K0 u1 ((u1 + (1 : Int32)) &&& (15 : Int32)) kf vf 1 (E0) (Fk) (Fv) (Fs) (Ft) (Va) ⟨hu0, (own_nx hu0 hu1).1, by rw [(own_nx hu0 hu1).2], by have : u1.toNatClampNeg ≠ zz := fun q => hk (by rw [q]; exact hz0); omega, by rw [(own_nx hu0 hu1).2]; omega, own_start hP.1 hP.2.1 hu1 hk, fun _ _ => Iff.rfl, fun _ _ q => q, fun u hu _ e => hP.2.2.2.1 u hu e, fun q => q⟩
theorem ef_rm15_n (m : MethodId) (o0 : Addr) (key : Int64) : entryFrame m #[(.ref o0), (.long key)] 5 = mkF m 0 #[.val (.ref o0), .val (.long key), .second, .unset, .unset] [] := by first | (simp [entryFrame, mkF, argsToLocals, Value.category]; done) | rfl
def Q_rm15_n (Z : State) (o0 : Addr) (key : Int64) (ka : Addr) (kf vf : Nat → Int64) (tk : Int32) (mm : Nat) (h0 : Heap) (n0 : Nat) (v : Option Value) (h : Heap) (L : List Loc) : Prop := ∃ (b : Int32) (kf' vf' : Nat → Int64) (tk' : Int32), v = some (.int b) ∧ Fr n0 L ∧ Keep h0 h [o0, ka] ∧ Exa Z h o0 "com/example/clockwrap/clockwrap/store/LongTable$Part" ∧ Fld Z h o0 "com/example/clockwrap/clockwrap/store/LongTable$Part" "keys" "[J" (.ref ka) ∧ Fld Z h o0 "com/example/clockwrap/clockwrap/store/LongTable$Part" "values" "[J" .null ∧ Fld Z h o0 "com/example/clockwrap/clockwrap/store/LongTable$Part" "shift" "I" (.int (60 : Int32)) ∧ Fld Z h o0 "com/example/clockwrap/clockwrap/store/LongTable$Part" "taken" "I" (.int tk') ∧ Ara Z h ka .long 16 (fun i => .long (kf' i)) ∧ PI hm kf' vf' tk' (mm + 1) ∧ (∀ kk vv, kk ≠ 0 → (In kf' vf' kk vv ↔ kk ≠ key ∧ In kf vf kk vv)) ∧ ((∀ i, vf i = 0) → ∀ i, vf' i = 0)
theorem d15_0 : decode prog_33_method_6_code 0 = .ok (.aload_n 0, 1) := by decide +kernel
theorem d15_1 : decode prog_33_method_6_code 1 = .ok (.lload_n 1, 1) := by decide +kernel
theorem d15_2 : decode prog_33_method_6_code 2 = .ok (.invokevirtual 27, 3) := by decide +kernel
theorem d15_5 : decode prog_33_method_6_code 5 = .ok (.istore_n 3, 1) := by decide +kernel
theorem d15_6 : decode prog_33_method_6_code 6 = .ok (.aload_n 0, 1) := by decide +kernel
theorem d15_7 : decode prog_33_method_6_code 7 = .ok (.getfield 11, 3) := by decide +kernel
theorem d15_10 : decode prog_33_method_6_code 10 = .ok (.iload_n 3, 1) := by decide +kernel
theorem d15_11 : decode prog_33_method_6_code 11 = .ok (.laload, 1) := by decide +kernel
theorem d15_12 : decode prog_33_method_6_code 12 = .ok (.lload_n 1, 1) := by decide +kernel
theorem d15_13 : decode prog_33_method_6_code 13 = .ok (.lcmp, 1) := by decide +kernel
theorem d15_14 : decode prog_33_method_6_code 14 = .ok (.ifCond .ne 7, 3) := by decide +kernel
theorem d15_17 : decode prog_33_method_6_code 17 = .ok (.iconst 1, 1) := by decide +kernel
theorem d15_18 : decode prog_33_method_6_code 18 = .ok (.goto 4, 3) := by decide +kernel
theorem d15_22 : decode prog_33_method_6_code 22 = .ok (.istore 4, 2) := by decide +kernel
theorem d15_24 : decode prog_33_method_6_code 24 = .ok (.iload 4, 2) := by decide +kernel
theorem d15_26 : decode prog_33_method_6_code 26 = .ok (.ifCond .eq 18, 3) := by decide +kernel
theorem d15_29 : decode prog_33_method_6_code 29 = .ok (.aload_n 0, 1) := by decide +kernel
theorem d15_30 : decode prog_33_method_6_code 30 = .ok (.iload_n 3, 1) := by decide +kernel
theorem pd_3 : parseMethodDescriptor "(I)V" = some ⟨[.int], none⟩ := by decide +kernel
theorem d15_31 : decode prog_33_method_6_code 31 = .ok (.invokevirtual 38, 3) := by decide +kernel
theorem d15_34 : decode prog_33_method_6_code 34 = .ok (.aload_n 0, 1) := by decide +kernel
theorem d15_35 : decode prog_33_method_6_code 35 = .ok (.dup, 1) := by decide +kernel
theorem d15_36 : decode prog_33_method_6_code 36 = .ok (.getfield 42, 3) := by decide +kernel
theorem d15_39 : decode prog_33_method_6_code 39 = .ok (.iconst 1, 1) := by decide +kernel
theorem d15_40 : decode prog_33_method_6_code 40 = .ok (.isub, 1) := by decide +kernel
theorem d15_41 : decode prog_33_method_6_code 41 = .ok (.putfield 42, 3) := by decide +kernel
theorem d15_44 : decode prog_33_method_6_code 44 = .ok (.iload 4, 2) := by decide +kernel
theorem d15_46 : decode prog_33_method_6_code 46 = .ok (.ireturn, 1) := by decide +kernel
theorem d15_21 : decode prog_33_method_6_code 21 = .ok (.iconst 0, 1) := by decide +kernel
set_option maxRecDepth 65536 in
set_option maxHeartbeats 40000000 in
theorem rm15_n (l : Launch) (Z : State) (a0 : Array Value) (hw : ∀ d ∈ tables_1, d.before a0 Z = true) (ws : List Jvm.Cond) (o0 : Addr) (key : Int64) (ka : Addr) (kf vf : Nat → Int64) (tk : Int32) (mm : Nat) (h0 : Heap) (n0 : Nat) (Z0 : n0 ≤ h0.size) (geo : n0 ≤ o0) (gek : n0 ≤ ka) (nok : o0 ≠ ka) (E0 : Exa Z h0 o0 "com/example/clockwrap/clockwrap/store/LongTable$Part") (Fk : Fld Z h0 o0 "com/example/clockwrap/clockwrap/store/LongTable$Part" "keys" "[J" (.ref ka)) (Fv : Fld Z h0 o0 "com/example/clockwrap/clockwrap/store/LongTable$Part" "values" "[J" .null) (Fs : Fld Z h0 o0 "com/example/clockwrap/clockwrap/store/LongTable$Part" "shift" "I" (.int (60 : Int32))) (Ft : Fld Z h0 o0 "com/example/clockwrap/clockwrap/store/LongTable$Part" "taken" "I" (.int tk)) (Va : Ara Z h0 ka .long 16 (fun i => .long (kf i))) (hP : PI hm kf vf tk mm) (hm10 : mm < 10) (hk : key ≠ 0) :
    MetFree l (⟨"com/example/clockwrap/clockwrap/store/LongTable$Part", "remove", "(J)Z"⟩ : MethodName) (head1 (Jvm.Cond.code (⟨"com/example/clockwrap/clockwrap/store/LongTable$Part", "remove", "(J)Z"⟩ : MethodName) prog_33_method_6_code 5 (some .boolean) :: ws) ({ frames := 2, cells := 0, slots := 0, locals := 40 } : Room)) (fun a U => a = #[(.ref o0), (.long key)] ∧ Z.Warmed39 U.vm ∧ U.heap = h0) (fun _ _ _ _ _ => True) (fun _ U o U' => ∃ v L, o = .returned v ∧ (Q_rm15_n Z o0 key ka kf vf tk mm h0 n0) v U'.heap L ∧ FrameEnd U o U' L ({ frames := 2, cells := 0, slots := 0, locals := 40 } : Room).cells ({ frames := 2, cells := 0, slots := 0, locals := 40 } : Room).slots) := by
  refine MetFree.of_bodySF (plainFor_of_name pn_1) hisR ?_
  intro p e s m args below meth c s₁ Bd hml0 hP hK
  obtain ⟨rfl, hZ, hh⟩ := hP
  have hx := Bd.exec
  have hby := Bd.bytes
  have hml : c.maxLocals = 5 := hml0
  have hown : s.vm.findClass "com/example/clockwrap/clockwrap/store/LongTable$Part" = some m.cls := findClass_of_methodNamed Bd.named
  have hnm := (name_of_methodNamed Bd.named Bd.method).1
  have X0 : Stand p l e ({ frames := 2, cells := 0, slots := 0, locals := 40 } : Room) s m #[(.ref o0), (.long key)] below meth c s₁ [] 0 0 := Stand.of_body Bd
  have e0 : s₁.heap = h0 := by rw [← hh, Bd.state]; rfl
  have N0 := Fr.nil n0
  show OFin p e below (ORet (Q_rm15_n Z o0 key ka kf vf tk mm h0 n0) s ({ frames := 2, cells := 0, slots := 0, locals := 40 } : Room).cells ({ frames := 2, cells := 0, slots := 0, locals := 40 } : Room).slots) (s₁.setTop (entryFrame m #[(.ref o0), (.long key)] 5))
  refine OFin.go (fun t k => castTop (ef_rm15_n m o0 key) k) ?_
  have K0 := Keep.refl h0 [o0, ka]
  show OFin p e below (ORet (Q_rm15_n Z o0 key ka kf vf tk mm h0 n0) s ({ frames := 2, cells := 0, slots := 0, locals := 40 } : Room).cells ({ frames := 2, cells := 0, slots := 0, locals := 40 } : Room).slots) (s₁.setTop (mkF m 0 #[.val (.ref o0), .val (.long key), .second, .unset, .unset] []))
  have S1 : ∀ t, Steps p.tables e below (s₁.setTop (mkF m 2 #[.val (.ref o0), .val (.long key), .second, .unset, .unset] [(.long key), (.ref o0)])) t → Steps p.tables e below (s₁.setTop (mkF m 0 #[.val (.ref o0), .val (.long key), .second, .unset, .unset] [])) t := by
    intro t k
    show Steps p.tables e below (s₁.setTop (mkF m 0 #[.val (.ref o0), .val (.long key), .second, .unset, .unset] [])) t
    refine XS.aloadN X0.here hx rfl (hb hby d15_0) rfl rfl ?_
    show Steps p.tables e below (s₁.setTop (mkF m 1 #[.val (.ref o0), .val (.long key), .second, .unset, .unset] [(.ref o0)])) t
    refine XS.lloadN X0.here hx rfl (hb hby d15_1) rfl ?_
    exact k
  refine OFin.go S1 ?_
  obtain ⟨_, T2, Lc2, X2, hQ2, st2⟩ := privQ X0 hx hZ (y := (⟨"com/example/clockwrap/clockwrap/store/LongTable$Part", "slot", "(J)I"⟩ : MethodName)) hown (hw _ (List.mem_of_getElem? (i := 49) rfl)) (hw _ (List.mem_of_getElem? (i := 50) rfl)) (hw _ (List.mem_of_getElem? (i := 18) rfl)) (hw _ (List.mem_of_getElem? (i := 52) rfl)) (hw _ (List.mem_of_getElem? (i := 51) rfl)) (hw _ (List.mem_of_getElem? (i := 17) rfl)) (by decide) E0 (argsL := [(.long key)]) (rest := []) (rm8 l Z a0 hw [] o0 key ka kf h0 n0 Z0 E0 Fs Fk Va (hP.free (by omega))) (W := 0) (by decide) (by decide) e0 (g := (mkF m 2 #[.val (.ref o0), .val (.long key), .second, .unset, .unset] [(.long key), (.ref o0)])) rfl (by rw [hml]; rfl) (lenOf pd_1 rfl) rfl (by show 2 * 0 + _ ≤ _; exact Nat.le_of_eq rfl) (hb hby d15_2) (Nat.le_of_ble_eq_true rfl) (Nat.le_of_ble_eq_true rfl)
  obtain ⟨sl, rfl, N2q, e2, hs0, hfn⟩ := hQ2
  have N2 := Fr.app N0 N2q
  refine OFin.go st2 ?_
  show OFin p e below _ (T2.setTop (mkF m 5 #[.val (.ref o0), .val (.long key), .second, .unset, .unset] [(.int sl)]))
  have S3 : ∀ t, Steps p.tables e below (T2.setTop (mkF m 7 #[.val (.ref o0), .val (.long key), .second, .val (.int sl), .unset] [(.ref o0)])) t → Steps p.tables e below (T2.setTop (mkF m 5 #[.val (.ref o0), .val (.long key), .second, .unset, .unset] [(.int sl)])) t := by
    intro t k
    show Steps p.tables e below (T2.setTop (mkF m 5 #[.val (.ref o0), .val (.long key), .second, .unset, .unset] [(.int sl)])) t
    refine XS.istoreN X2.here hx rfl (hb hby d15_5) rfl (l' := #[.val (.ref o0), .val (.long key), .second, .val (.int sl), .unset]) rfl ?_
    show Steps p.tables e below (T2.setTop (mkF m 6 #[.val (.ref o0), .val (.long key), .second, .val (.int sl), .unset] [])) t
    refine XS.aloadN X2.here hx rfl (hb hby d15_6) rfl rfl ?_
    exact k
  refine OFin.go S3 ?_
  obtain ⟨T4, X4, e4, st4⟩ := getF X2 hx hZ hown (host := "") (Or.inl (hw _ (List.mem_of_getElem? (i := 24) rfl))) Via.refl e2 Fk (g := (mkF m 7 #[.val (.ref o0), .val (.long key), .second, .val (.int sl), .unset] [(.ref o0)])) rfl rfl (hb hby d15_7)
  refine OFin.go st4 ?_
  show OFin p e below _ (T4.setTop (mkF m 10 #[.val (.ref o0), .val (.long key), .second, .val (.int sl), .unset] [(.ref ka)]))
  have S5 : ∀ t, Steps p.tables e below (T4.setTop (mkF m 14 #[.val (.ref o0), .val (.long key), .second, .val (.int sl), .unset] [(.int (lcmpW (kf sl.toNatClampNeg) key))])) t → Steps p.tables e below (T4.setTop (mkF m 10 #[.val (.ref o0), .val (.long key), .second, .val (.int sl), .unset] [(.ref ka)])) t := by
    intro t k
    show Steps p.tables e below (T4.setTop (mkF m 10 #[.val (.ref o0), .val (.long key), .second, .val (.int sl), .unset] [(.ref ka)])) t
    refine XS.iloadN X4.here hx rfl (hb hby d15_10) rfl ?_
    show Steps p.tables e below (T4.setTop (mkF m 11 #[.val (.ref o0), .val (.long key), .second, .val (.int sl), .unset] [(.int sl), (.ref ka)])) t
    refine rdJ X4 hx hZ e4 Va (i := sl.toNatClampNeg) hs0 rfl (own_fls hfn) (x := (.long (kf sl.toNatClampNeg))) rfl (g := (mkF m 11 #[.val (.ref o0), .val (.long key), .second, .val (.int sl), .unset] [(.int sl), (.ref ka)])) rfl rfl (hb hby d15_11) ?_
    show Steps p.tables e below (T4.setTop (mkF m 12 #[.val (.ref o0), .val (.long key), .second, .val (.int sl), .unset] [(.long (kf sl.toNatClampNeg))])) t
    refine XS.lloadN X4.here hx rfl (hb hby d15_12) rfl ?_
    show Steps p.tables e below (T4.setTop (mkF m 13 #[.val (.ref o0), .val (.long key), .second, .val (.int sl), .unset] [(.long key), (.long (kf sl.toNatClampNeg))])) t
    refine XS.lcmp X4.here hx rfl (hb hby d15_13) rfl ?_
    exact k
  refine OFin.go S5 ?_
  by_cases h6 : ((kf sl.toNatClampNeg) = key)
  · -- pc 14: ((kf sl.toNatClampNeg) = key)
    have S7 : ∀ t, Steps p.tables e below (T4.setTop (mkF m 17 #[.val (.ref o0), .val (.long key), .second, .val (.int sl), .unset] [])) t → Steps p.tables e below (T4.setTop (mkF m 14 #[.val (.ref o0), .val (.long key), .second, .val (.int sl), .unset] [(.int (lcmpW (kf sl.toNatClampNeg) key))])) t := by
      intro t k
      show Steps p.tables e below (T4.setTop (mkF m 14 #[.val (.ref o0), .val (.long key), .second, .val (.int sl), .unset] [(.int (lcmpW (kf sl.toNatClampNeg) key))])) t
      refine XS.ifNo X4.here hx rfl (hb hby d15_14) rfl (lc_ne_f h6) ?_
      exact k
    refine OFin.go S7 ?_
    have S8 : ∀ t, Steps p.tables e below (T4.setTop (mkF m 26 #[.val (.ref o0), .val (.long key), .second, .val (.int sl), .val (.int (1 : Int32))] [(.int (1 : Int32))])) t → Steps p.tables e below (T4.setTop (mkF m 17 #[.val (.ref o0), .val (.long key), .second, .val (.int sl), .unset] [])) t := by
      intro t k
      show Steps p.tables e below (T4.setTop (mkF m 17 #[.val (.ref o0), .val (.long key), .second, .val (.int sl), .unset] [])) t
      refine XS.iconst X4.here hx rfl (hb hby d15_17) ?_
      show Steps p.tables e below (T4.setTop (mkF m 18 #[.val (.ref o0), .val (.long key), .second, .val (.int sl), .unset] [(.int (1 : Int32))])) t
      refine XS.goto X4.here hx rfl (pc0 := 18) (pc' := 22) rfl (hb hby d15_18) (by decide) (by decide) ?_
      show Steps p.tables e below (T4.setTop (mkF m 22 #[.val (.ref o0), .val (.long key), .second, .val (.int sl), .unset] [(.int (1 : Int32))])) t
      refine XS.istore X4.here hx rfl (hb hby d15_22) rfl (l' := #[.val (.ref o0), .val (.long key), .second, .val (.int sl), .val (.int (1 : Int32))]) rfl ?_
      show Steps p.tables e below (T4.setTop (mkF m 24 #[.val (.ref o0), .val (.long key), .second, .val (.int sl), .val (.int (1 : Int32))] [])) t
      refine XS.iload X4.here hx rfl (hb hby d15_24) rfl ?_
      exact k
    refine OFin.go S8 ?_
    have S9 : ∀ t, Steps p.tables e below (T4.setTop (mkF m 29 #[.val (.ref o0), .val (.long key), .second, .val (.int sl), .val (.int (1 : Int32))] [])) t → Steps p.tables e below (T4.setTop (mkF m 26 #[.val (.ref o0), .val (.long key), .second, .val (.int sl), .val (.int (1 : Int32))] [(.int (1 : Int32))])) t := by
      intro t k
      show Steps p.tables e below (T4.setTop (mkF m 26 #[.val (.ref o0), .val (.long key), .second, .val (.int sl), .val (.int (1 : Int32))] [(.int (1 : Int32))])) t
      refine XS.ifNo X4.here hx rfl (hb hby d15_26) rfl ((if0 _ _).trans (feq (by decide)).1) ?_
      exact k
    refine OFin.go S9 ?_
    have S10 : ∀ t, Steps p.tables e below (T4.setTop (mkF m 31 #[.val (.ref o0), .val (.long key), .second, .val (.int sl), .val (.int (1 : Int32))] [(.int sl), (.ref o0)])) t → Steps p.tables e below (T4.setTop (mkF m 29 #[.val (.ref o0), .val (.long key), .second, .val (.int sl), .val (.int (1 : Int32))] [])) t := by
      intro t k
      show Steps p.tables e below (T4.setTop (mkF m 29 #[.val (.ref o0), .val (.long key), .second, .val (.int sl), .val (.int (1 : Int32))] [])) t
      refine XS.aloadN X4.here hx rfl (hb hby d15_29) rfl rfl ?_
      show Steps p.tables e below (T4.setTop (mkF m 30 #[.val (.ref o0), .val (.long key), .second, .val (.int sl), .val (.int (1 : Int32))] [(.ref o0)])) t
      refine XS.iloadN X4.here hx rfl (hb hby d15_30) rfl ?_
      exact k
    refine OFin.go S10 ?_
    obtain ⟨_, T11, Lc11, X11, hQ11, st11⟩ := privQ X4 hx hZ (y := (⟨"com/example/clockwrap/clockwrap/store/LongTable$Part", "free", "(I)V"⟩ : MethodName)) hown (hw _ (List.mem_of_getElem? (i := 92) rfl)) (hw _ (List.mem_of_getElem? (i := 93) rfl)) (hw _ (List.mem_of_getElem? (i := 18) rfl)) (hw _ (List.mem_of_getElem? (i := 95) rfl)) (hw _ (List.mem_of_getElem? (i := 94) rfl)) (hw _ (List.mem_of_getElem? (i := 17) rfl)) (by decide) E0 (argsL := [(.int sl)]) (rest := []) (rm16_n l Z a0 hw [] o0 sl ka kf vf tk mm h0 n0 Z0 geo gek nok E0 Fk Fv Fs Ft Va hP hm10 hs0 (own_fls hfn) (by rw [h6]; exact hk)) (W := 0) (by decide) (by decide) e4 (g := (mkF m 31 #[.val (.ref o0), .val (.long key), .second, .val (.int sl), .val (.int (1 : Int32))] [(.int sl), (.ref o0)])) rfl (by rw [hml]; rfl) (lenOf pd_3 rfl) rfl (by show 2 * 0 + _ ≤ _; exact Nat.le_of_eq rfl) (hb hby d15_31) (Nat.le_of_ble_eq_true rfl) (Nat.le_of_ble_eq_true rfl)
    obtain ⟨kf', vf', rfl, N11q, K11q, E11, Fk11, Fv11, Fs11, Ft11, Va11, hPr, hIn, hnv⟩ := hQ11
    have Z11 : n0 ≤ T11.heap.size := Nat.le_trans Z0 K11q.1
    have K11 := Keep.trans K0 K11q (allS (Or.inl (List.mem_of_getElem? (i := 0) rfl)) (allS (Or.inl (List.mem_of_getElem? (i := 1) rfl)) all0))
    have N11 := Fr.app N2 N11q
    refine OFin.go st11 ?_
    show OFin p e below _ (T11.setTop (mkF m 34 #[.val (.ref o0), .val (.long key), .second, .val (.int sl), .val (.int (1 : Int32))] []))
    have S12 : ∀ t, Steps p.tables e below (T11.setTop (mkF m 36 #[.val (.ref o0), .val (.long key), .second, .val (.int sl), .val (.int (1 : Int32))] [(.ref o0), (.ref o0)])) t → Steps p.tables e below (T11.setTop (mkF m 34 #[.val (.ref o0), .val (.long key), .second, .val (.int sl), .val (.int (1 : Int32))] [])) t := by
      intro t k
      show Steps p.tables e below (T11.setTop (mkF m 34 #[.val (.ref o0), .val (.long key), .second, .val (.int sl), .val (.int (1 : Int32))] [])) t
      refine XS.aloadN X11.here hx rfl (hb hby d15_34) rfl rfl ?_
      show Steps p.tables e below (T11.setTop (mkF m 35 #[.val (.ref o0), .val (.long key), .second, .val (.int sl), .val (.int (1 : Int32))] [(.ref o0)])) t
      refine XS.dup X11.here hx rfl (hb hby d15_35) rfl rfl ?_
      exact k
    refine OFin.go S12 ?_
    obtain ⟨T13, X13, e13, st13⟩ := getF X11 hx hZ hown (host := "") (Or.inl (hw _ (List.mem_of_getElem? (i := 64) rfl))) Via.refl rfl Ft11 (g := (mkF m 36 #[.val (.ref o0), .val (.long key), .second, .val (.int sl), .val (.int (1 : Int32))] [(.ref o0), (.ref o0)])) rfl rfl (hb hby d15_36)
    refine OFin.go st13 ?_
    show OFin p e below _ (T13.setTop (mkF m 39 #[.val (.ref o0), .val (.long key), .second, .val (.int sl), .val (.int (1 : Int32))] [(.int tk), (.ref o0)]))
    have S14 : ∀ t, Steps p.tables e below (T13.setTop (mkF m 41 #[.val (.ref o0), .val (.long key), .second, .val (.int sl), .val (.int (1 : Int32))] [(.int (tk - (1 : Int32))), (.ref o0)])) t → Steps p.tables e below (T13.setTop (mkF m 39 #[.val (.ref o0), .val (.long key), .second, .val (.int sl), .val (.int (1 : Int32))] [(.int tk), (.ref o0)])) t := by
      intro t k
      show Steps p.tables e below (T13.setTop (mkF m 39 #[.val (.ref o0), .val (.long key), .second, .val (.int sl), .val (.int (1 : Int32))] [(.int tk), (.ref o0)])) t
      refine XS.iconst X13.here hx rfl (hb hby d15_39) ?_
      show Steps p.tables e below (T13.setTop (mkF m 40 #[.val (.ref o0), .val (.long key), .second, .val (.int sl), .val (.int (1 : Int32))] [(.int (1 : Int32)), (.int tk), (.ref o0)])) t
      refine XS.isub X13.here hx rfl (hb hby d15_40) rfl ?_
      exact k
    refine OFin.go S14 ?_
    obtain ⟨T15, h15, X15, e15, W15, st15⟩ := putF X13 hx hZ hown (host := "") (Or.inl (hw _ (List.mem_of_getElem? (i := 64) rfl))) Via.refl e13 Ft11 E11 (Or.inl (hw _ (List.mem_of_getElem? (i := 65) rfl))) (hw _ (List.mem_of_getElem? (i := 17) rfl)) (ty := .int) (by decide) rfl rfl (g := (mkF m 41 #[.val (.ref o0), .val (.long key), .second, .val (.int sl), .val (.int (1 : Int32))] [(.int (tk - (1 : Int32))), (.ref o0)])) rfl rfl (hb hby d15_41)
    have Fw15 := Ft11.same W15
    have N15 := Fr.snoc X15 N11 geo
    have Z15 : n0 ≤ h15.size := Nat.le_trans Z11 (wr_le W15)
    have K15 := Keep.wr K11 W15 (Or.inl (List.mem_of_getElem? (i := 0) rfl))
    refine OFin.go st15 ?_
    show OFin p e below _ (T15.setTop (mkF m 44 #[.val (.ref o0), .val (.long key), .second, .val (.int sl), .val (.int (1 : Int32))] []))
    have S16 : ∀ t, Steps p.tables e below (T15.setTop (mkF m 46 #[.val (.ref o0), .val (.long key), .second, .val (.int sl), .val (.int (1 : Int32))] [(.int (1 : Int32))])) t → Steps p.tables e below (T15.setTop (mkF m 44 #[.val (.ref o0), .val (.long key), .second, .val (.int sl), .val (.int (1 : Int32))] [])) t := by
      intro t k
      show Steps p.tables e below (T15.setTop (mkF m 44 #[.val (.ref o0), .val (.long key), .second, .val (.int sl), .val (.int (1 : Int32))] [])) t
      refine XS.iload X15.here hx rfl (hb hby d15_44) rfl ?_
      exact k
    refine OFin.go S16 ?_
    have F17 := E11.wr W15
    have F18 := Fk11.other W15 (Or.inr (slot_ne (Or.inl (hw _ (List.mem_of_getElem? (i := 25) rfl))) (Or.inl (hw _ (List.mem_of_getElem? (i := 65) rfl))) (by decide) (t := (.array .long)) (t' := .int) (by decide) (by decide)))
    have F19 := Fv11.other W15 (Or.inr (slot_ne (Or.inl (hw _ (List.mem_of_getElem? (i := 63) rfl))) (Or.inl (hw _ (List.mem_of_getElem? (i := 65) rfl))) (by decide) (t := (.array .long)) (t' := .int) (by decide) (by decide)))
    have F20 := Fs11.other W15 (Or.inr (slot_ne (Or.inl (hw _ (List.mem_of_getElem? (i := 32) rfl))) (Or.inl (hw _ (List.mem_of_getElem? (i := 65) rfl))) (by decide) (t := .int) (t' := .int) (by decide) (by decide)))
    have F21 := Va11.other W15 (Ne.symm nok)
    exact finZ X15 hx Bd.notSynchronized (t := .boolean) Bd.returns (by simp) (hb hby d15_46) rfl (by decide) (by decide) (by rw [e15]; exact ⟨_, kf', vf', tk - 1, rfl, N15, K15, F17, F18, F19, F20, Fw15, F21, hPr _ (own_t hP hm10).2.2, fun kk vv q => by rw [hIn kk vv q, h6], hnv⟩)
  · -- pc 14: not ((kf sl.toNatClampNeg) = key)
    have S22 : ∀ t, Steps p.tables e below (T4.setTop (mkF m 21 #[.val (.ref o0), .val (.long key), .second, .val (.int sl), .unset] [])) t → Steps p.tables e below (T4.setTop (mkF m 14 #[.val (.ref o0), .val (.long key), .second, .val (.int sl), .unset] [(.int (lcmpW (kf sl.toNatClampNeg) key))])) t := by
      intro t k
      show Steps p.tables e below (T4.setTop (mkF m 14 #[.val (.ref o0), .val (.long key), .second, .val (.int sl), .unset] [(.int (lcmpW (kf sl.toNatClampNeg) key))])) t
      refine XS.ifYes X4.here hx rfl (pc0 := 14) (pc' := 21) rfl (hb hby d15_14) rfl (lc_ne_t h6) (by decide) (by decide) ?_
      exact k
    refine OFin.go S22 ?_
    have S23 : ∀ t, Steps p.tables e below (T4.setTop (mkF m 26 #[.val (.ref o0), .val (.long key), .second, .val (.int sl), .val (.int (0 : Int32))] [(.int (0 : Int32))])) t → Steps p.tables e below (T4.setTop (mkF m 21 #[.val (.ref o0), .val (.long key), .second, .val (.int sl), .unset] [])) t := by
      intro t k
      show Steps p.tables e below (T4.setTop (mkF m 21 #[.val (.ref o0), .val (.long key), .second, .val (.int sl), .unset] [])) t
      refine XS.iconst X4.here hx rfl (hb hby d15_21) ?_
      show Steps p.tables e below (T4.setTop (mkF m 22 #[.val (.ref o0), .val (.long key), .second, .val (.int sl), .unset] [(.int (0 : Int32))])) t
      refine XS.istore X4.here hx rfl (hb hby d15_22) rfl (l' := #[.val (.ref o0), .val (.long key), .second, .val (.int sl), .val (.int (0 : Int32))]) rfl ?_
      show Steps p.tables e below (T4.setTop (mkF m 24 #[.val (.ref o0), .val (.long key), .second, .val (.int sl), .val (.int (0 : Int32))] [])) t
      refine XS.iload X4.here hx rfl (hb hby d15_24) rfl ?_
      exact k
    refine OFin.go S23 ?_
    have S24 : ∀ t, Steps p.tables e below (T4.setTop (mkF m 44 #[.val (.ref o0), .val (.long key), .second, .val (.int sl), .val (.int (0 : Int32))] [])) t → Steps p.tables e below (T4.setTop (mkF m 26 #[.val (.ref o0), .val (.long key), .second, .val (.int sl), .val (.int (0 : Int32))] [(.int (0 : Int32))])) t := by
      intro t k
      show Steps p.tables e below (T4.setTop (mkF m 26 #[.val (.ref o0), .val (.long key), .second, .val (.int sl), .val (.int (0 : Int32))] [(.int (0 : Int32))])) t
      refine XS.ifYes X4.here hx rfl (pc0 := 26) (pc' := 44) rfl (hb hby d15_26) rfl ((if0 _ _).trans (teq (by decide)).1) (by decide) (by decide) ?_
      exact k
    refine OFin.go S24 ?_
    have S25 : ∀ t, Steps p.tables e below (T4.setTop (mkF m 46 #[.val (.ref o0), .val (.long key), .second, .val (.int sl), .val (.int (0 : Int32))] [(.int (0 : Int32))])) t → Steps p.tables e below (T4.setTop (mkF m 44 #[.val (.ref o0), .val (.long key), .second, .val (.int sl), .val (.int (0 : Int32))] [])) t := by
      intro t k
      show Steps p.tables e below (T4.setTop (mkF m 44 #[.val (.ref o0), .val (.long key), .second, .val (.int sl), .val (.int (0 : Int32))] [])) t
      refine XS.iload X4.here hx rfl (hb hby d15_44) rfl ?_
      exact k
    refine OFin.go S25 ?_
    exact finZ X4 hx Bd.notSynchronized (t := .boolean) Bd.returns (by simp) (hb hby d15_46) rfl (by decide) (by decide) (by rw [e4]; exact ⟨_, kf, vf, tk, rfl, N2, K0, E0, Fk, Fv, Fs, Ft, Va, hP.mono (by omega), own_remS (fun q => h6 ((own_there hP.1 hP.2.1 hk hfn).mpr q)), fun q => q⟩)
def eM : Int64 → Int64 → Prop := fun _ _ => False
def addM (key : Int64) (M : Int64 → Int64 → Prop) (k v : Int64) : Prop := if k = key then (v = 0 ∧ ∀ v', ¬ M key v') ∨ M key v else M k v
def remM (key : Int64) (M : Int64 → Int64 → Prop) (k v : Int64) : Prop := k ≠ key ∧ M k v
def putM (key val : Int64) (M : Int64 → Int64 → Prop) (k v : Int64) : Prop := if k = key then v = val else M k v
/-- an operation looks at the entries of its key alone, and turns no other key's -/
def Lcl (key : Int64) (R : (Int64 → Int64 → Prop) → Int64 → Int64 → Prop) : Prop := (∀ M M' k v, (∀ w, M key w ↔ M' key w) → (∀ w, M k w ↔ M' k w) → (R M k v ↔ R M' k v)) ∧ ∀ M k v, k ≠ key → (R M k v ↔ M k v)
theorem addM_l (key : Int64) : Lcl key (addM key) := by
  refine ⟨fun M M' k v h1 h2 => ?_, fun M k v q => ?_⟩
  · unfold addM
    by_cases r : k = key
    · rw [if_pos r, if_pos r]; simp only [h1]
    · rw [if_neg r, if_neg r]; exact h2 v
  · unfold addM; rw [if_neg q]
theorem remM_l (key : Int64) : Lcl key (remM key) :=
  ⟨fun M M' k v h1 h2 => ⟨fun z => ⟨z.1, (h2 v).mp z.2⟩, fun z => ⟨z.1, (h2 v).mpr z.2⟩⟩, fun M k v q => ⟨fun z => z.2, fun z => ⟨q, z⟩⟩⟩
theorem putM_l (key val : Int64) : Lcl key (putM key val) := by
  refine ⟨fun M M' k v h1 h2 => ?_, fun M k v q => ?_⟩
  · unfold putM
    by_cases r : k = key
    · rw [if_pos r, if_pos r]
    · rw [if_neg r, if_neg r]; exact h2 v
  · unfold putM; rw [if_neg q]
theorem own_nar01 {b : Int32} (h : b = 1 ∨ b = 0) : nar .boolean b = b := by rcases h with rfl | rfl <;> rfl
def PTn (Z : State) (h : Heap) (o0 ka : Addr) (kf vf : Nat → Int64) (tk : Int32) : Prop := Exa Z h o0 "com/example/clockwrap/clockwrap/store/LongTable$Part" ∧ Fld Z h o0 "com/example/clockwrap/clockwrap/store/LongTable$Part" "keys" "[J" (.ref ka) ∧ Fld Z h o0 "com/example/clockwrap/clockwrap/store/LongTable$Part" "values" "[J" .null ∧ Fld Z h o0 "com/example/clockwrap/clockwrap/store/LongTable$Part" "shift" "I" (.int (60 : Int32)) ∧ Fld Z h o0 "com/example/clockwrap/clockwrap/store/LongTable$Part" "taken" "I" (.int tk) ∧ Ara Z h ka .long 16 (fun i => .long (kf i))
def PT (Z : State) (h : Heap) (o0 : Addr) (FF : List Addr) (kf vf : Nat → Int64) (tk : Int32) : Prop := (∃ ka, FF = [o0, ka] ∧ o0 ≠ ka ∧ PTn Z h o0 ka kf vf tk ∧ ∀ i, vf i = 0)
theorem PT.keep {Z : State} {h : Heap} {o0 : Addr} {FF : List Addr} {kf vf : Nat → Int64} {tk : Int32} (P : PT Z h o0 FF kf vf tk) {h' : Heap} {ws : List Addr} (K : Keep h h' ws) (q : ∀ x ∈ FF, x ∉ ws) : PT Z h' o0 FF kf vf tk := by
  rcases P with ⟨ka, rfl, n1, ⟨E, f1, f2, f3, f4, A⟩, hv⟩
  · have a := q o0 (.head _)
    have b := q ka (.tail _ (.head _))
    exact ⟨ka, rfl, n1, ⟨E.keep K, f1.keep K a, f2.keep K a, f3.keep K a, f4.keep K a, A.keep K b⟩, hv⟩
theorem PT.lt {Z : State} {h : Heap} {o0 : Addr} {FF : List Addr} {kf vf : Nat → Int64} {tk : Int32} (P : PT Z h o0 FF kf vf tk) : ∀ x ∈ FF, x < h.size := by
  rcases P with ⟨ka, rfl, n1, ⟨E, f1, f2, f3, f4, A⟩, hv⟩
  · exact allS E.lt (allS A.lt all0)
theorem PT.exa {Z : State} {h : Heap} {o0 : Addr} {FF : List Addr} {kf vf : Nat → Int64} {tk : Int32} (P : PT Z h o0 FF kf vf tk) : Exa Z h o0 "com/example/clockwrap/clockwrap/store/LongTable$Part" := by
  rcases P with ⟨ka, rfl, n1, ⟨E, f1, f2, f3, f4, A⟩, hv⟩
  · exact E
/-- what a part's operation leaves behind -/
def QP (R : (Int64 → Int64 → Prop) → Int64 → Int64 → Prop) (Z : State) (o0 : Addr) (FF : List Addr) (kf vf : Nat → Int64) (mm : Nat) (h0 : Heap) (n0 : Nat) (v : Option Value) (h : Heap) (L : List Loc) : Prop :=
  ∃ (b : Int32) (F' : List Addr) (kf' vf' : Nat → Int64) (tk' : Int32), v = some (.int b) ∧ Fr n0 L ∧ Keep h0 h FF ∧ PT Z h o0 F' kf' vf' tk' ∧ (∀ x ∈ F', x ∈ FF ∨ h0.size ≤ x) ∧ PI hm kf' vf' tk' (mm + 1) ∧ ∀ kk vv, kk ≠ 0 → (In kf' vf' kk vv ↔ R (In kf vf) kk vv)
theorem p_add (l : Launch) (Z : State) (a0 : Array Value) (hw : ∀ d ∈ tables_1, d.before a0 Z = true) (o0 : Addr) (key : Int64) (FF : List Addr) (kf vf : Nat → Int64) (tk : Int32) (mm : Nat) (h0 : Heap) (n0 : Nat) (Z0 : n0 ≤ h0.size) (hT : PT Z h0 o0 FF kf vf tk) (hge : ∀ x ∈ FF, n0 ≤ x) (hP : PI hm kf vf tk mm) (hm10 : mm < 10) (hk : key ≠ 0) :
    Meets1 l (⟨"com/example/clockwrap/clockwrap/store/LongTable$Part", "add", "(J)Z"⟩ : MethodName) prog_33_method_3_code 5 (some .boolean) ({ frames := 2, cells := 0, slots := 0, locals := 40 } : Room) Z #[.ref o0, .long key] h0 (QP (addM key) Z o0 FF kf vf mm h0 n0) := by
  rcases hT with ⟨ka, rfl, nok, ⟨E0, Fk, Fv, Fs, Ft, Va⟩, hv0⟩
  · refine MetFree.mono (rm7_n l Z a0 hw [] o0 key ka kf vf tk mm h0 n0 Z0 (hge _ (.head _)) (hge _ (.tail _ (.head _))) nok E0 Fk Fv Fs Ft Va hP hm10 hk) (fun _ _ q => q) (fun _ _ _ _ _ q => q) ?_
    rintro _ U o U' - ⟨v, L, rfl, ⟨b, kf', vf', tk', rfl, N, K, E, f1, f2, f3, f4, A, P', I, nv⟩, hE⟩
    exact ⟨_, L, rfl, ⟨b, [o0, ka], kf', vf', tk', rfl, N, K, ⟨ka, rfl, nok, ⟨E, f1, f2, f3, f4, A⟩, nv hv0⟩, fun x q => Or.inl q, P', I⟩, hE⟩
theorem p_remove (l : Launch) (Z : State) (a0 : Array Value) (hw : ∀ d ∈ tables_1, d.before a0 Z = true) (o0 : Addr) (key : Int64) (FF : List Addr) (kf vf : Nat → Int64) (tk : Int32) (mm : Nat) (h0 : Heap) (n0 : Nat) (Z0 : n0 ≤ h0.size) (hT : PT Z h0 o0 FF kf vf tk) (hge : ∀ x ∈ FF, n0 ≤ x) (hP : PI hm kf vf tk mm) (hm10 : mm < 10) (hk : key ≠ 0) :
    Meets1 l (⟨"com/example/clockwrap/clockwrap/store/LongTable$Part", "remove", "(J)Z"⟩ : MethodName) prog_33_method_6_code 5 (some .boolean) ({ frames := 2, cells := 0, slots := 0, locals := 40 } : Room) Z #[.ref o0, .long key] h0 (QP (remM key) Z o0 FF kf vf mm h0 n0) := by
  rcases hT with ⟨ka, rfl, nok, ⟨E0, Fk, Fv, Fs, Ft, Va⟩, hv0⟩
  · refine MetFree.mono (rm15_n l Z a0 hw [] o0 key ka kf vf tk mm h0 n0 Z0 (hge _ (.head _)) (hge _ (.tail _ (.head _))) nok E0 Fk Fv Fs Ft Va hP hm10 hk) (fun _ _ q => q) (fun _ _ _ _ _ q => q) ?_
    rintro _ U o U' - ⟨v, L, rfl, ⟨b, kf', vf', tk', rfl, N, K, E, f1, f2, f3, f4, A, P', I, nv⟩, hE⟩
    exact ⟨_, L, rfl, ⟨b, [o0, ka], kf', vf', tk', rfl, N, K, ⟨ka, rfl, nok, ⟨E, f1, f2, f3, f4, A⟩, nv hv0⟩, fun x q => Or.inl q, P', I⟩, hE⟩
def Q_pcontains (key : Int64) (kf vf : Nat → Int64) (h0 : Heap) (n0 : Nat) (v : Option Value) (h : Heap) (L : List Loc) : Prop := ∃ b : Int32, v = some (.int b) ∧ Fr n0 L ∧ h = h0 ∧ (b = 1 ∨ b = 0) ∧ (b = 1 ↔ ∃ w, In kf vf key w)
theorem p_contains (l : Launch) (Z : State) (a0 : Array Value) (hw : ∀ d ∈ tables_1, d.before a0 Z = true) (o0 : Addr) (key : Int64) (FF : List Addr) (kf vf : Nat → Int64) (tk : Int32) (mm : Nat) (h0 : Heap) (n0 : Nat) (Z0 : n0 ≤ h0.size) (hT : PT Z h0 o0 FF kf vf tk) (hge : ∀ x ∈ FF, n0 ≤ x) (hP : PI hm kf vf tk mm) (hm10 : mm < 10) (hk : key ≠ 0) :
    Meets1 l (⟨"com/example/clockwrap/clockwrap/store/LongTable$Part", "contains", "(J)Z"⟩ : MethodName) prog_33_method_2_code 3 (some .boolean) ({ frames := 2, cells := 0, slots := 0, locals := 40 } : Room) Z #[.ref o0, .long key] h0 (Q_pcontains key kf vf h0 n0) := by
  rcases hT with ⟨ka, rfl, nok, ⟨E0, Fk, Fv, Fs, Ft, Va⟩, hv0⟩
  · refine MetFree.mono (rm12 l Z a0 hw [] o0 key ka kf vf tk mm h0 n0 Z0 (hge _ (.head _)) (hge _ (.tail _ (.head _))) nok E0 Fk Fv Fs Ft Va hP hm10 hk) (fun _ _ q => q) (fun _ _ _ _ _ q => q) ?_
    rintro _ U o U' - ⟨v, L, rfl, ⟨b, rfl, N, e, h01, I⟩, hE⟩
    exact ⟨_, L, rfl, ⟨b, rfl, N, e, h01, I.trans ⟨fun ⟨u, hu, q⟩ => ⟨_, u, hu, q, rfl⟩, fun ⟨w, u, hu, q, _⟩ => ⟨u, hu, q⟩⟩⟩, hE⟩
/-- the part that a key belongs to -/
def ixI (k : Int64) : Int32 := ((((k * (-7046029254386353131 : Int64)).toUInt64 >>> ((58 : Int32) &&& 0x3f).toInt64.toUInt64).toInt64).toInt32)
def ix (k : Int64) : Nat := (ixI k).toNatClampNeg
theorem ix_spec (k : Int64) : ¬ ixI k < 0 ∧ (ixI k).toInt < 64 := by
  unfold ixI
  generalize (k * (-7046029254386353131 : Int64)) = x
  have h1 := c_lushr x 58 58 (by decide) (by decide)
  have h2 : 0 ≤ x.toInt % 18446744073709551616 := Int.emod_nonneg _ (by decide)
  have h3 : x.toInt % 18446744073709551616 < 18446744073709551616 := Int.emod_lt_of_pos _ (by decide)
  generalize ((x.toUInt64 >>> ((58 : Int32) &&& 0x3f).toInt64.toUInt64).toInt64) = w at *
  have h4 := c_l2i w
  have h5 := w.toInt32.toInt_lt; have h6 := w.toInt32.le_toInt
  rw [Int32.lt_iff_toInt_lt]
  simp only [Int32.reduceToInt]
  have e : ((2 ^ 58 : Nat) : Int) = 288230376151711744 := by decide
  rw [e] at h1
  omega
theorem ix_lt (k : Int64) : ix k < 64 := by
  have h := ix_spec k
  have := nat_of h.1
  unfold ix; omega
theorem own_inc1 {ii : Int32} {nn : Nat} (h : ii.toInt = nn) (q : nn < 64) : (ii + (1 : Int32)).toInt = ((nn + 1 : Nat) : Int) := by
  have := c_iadd ii 1; have := (ii + 1).toInt_lt; have := (ii + 1).le_toInt; simp only [Int32.reduceToInt] at *; omega
theorem own_ixn {ii : Int32} {nn : Nat} (h : ii.toInt = nn) : ¬ ii < 0 ∧ ii.toNatClampNeg = nn := by
  have h0 : ¬ ii < 0 := by rw [Int32.lt_iff_toInt_lt]; simp only [Int32.reduceToInt]; omega
  have := nat_of h0
  exact ⟨h0, by omega⟩
theorem own_pi0 : PI hm (fun _ => 0) (fun _ => 0) 0 0 := ⟨fun s _ h => absurd rfl h, fun s t _ _ h _ => absurd rfl h, ⟨[], Nat.le_refl _, fun s _ h => absurd rfl h⟩, fun _ _ _ => rfl, by decide, by decide⟩
theorem own_arst (nn : Nat) (pa : Nat → Addr) (o : Addr) (i : Nat) : upd (fun i => if i < nn then Value.ref (pa i) else .null) nn (.ref o) i = if i < nn + 1 then .ref (upd pa nn o i) else .null := by
  unfold upd; dsimp only
  by_cases q : i = nn
  · subst q; rw [if_pos rfl, if_pos rfl, if_pos (show i < i + 1 by omega)]
  · rw [if_neg q, if_neg q]
    by_cases r : i < nn
    · rw [if_pos r, if_pos (show i < nn + 1 by omega)]
    · rw [if_neg r, if_neg (show ¬ i < nn + 1 by omega)]
/-- the first n parts; z: all their objects lie below it -/
def FAM (Z : State) (h : Heap) (n n0 z : Nat) (tb pr : Addr) (pa : Nat → Addr) (FF : Nat → List Addr) (KK VV : Nat → Nat → Int64) (TT : Nat → Int32) (mm : Nat) : Prop :=
  (∀ i, i < n → PT Z h (pa i) (FF i) (KK i) (VV i) (TT i) ∧ PI hm (KK i) (VV i) (TT i) mm ∧ ∀ x ∈ FF i, n0 ≤ x ∧ x < z ∧ x ≠ tb ∧ x ≠ pr) ∧
  ∀ i j, i < n → j < n → i ≠ j → ∀ x ∈ FF i, x ∉ FF j
section FAM
variable {Z : State} {h h' : Heap} {n n0 z : Nat} {tb pr : Addr} {pa : Nat → Addr} {FF : Nat → List Addr} {KK VV : Nat → Nat → Int64} {TT : Nat → Int32} {mm : Nat} {ws : List Addr}
theorem FAM.keep (H : FAM Z h n n0 z tb pr pa FF KK VV TT mm) (K : Keep h h' ws) (q : ∀ x ∈ ws, x = tb ∨ x = pr ∨ z ≤ x) : FAM Z h' n n0 z tb pr pa FF KK VV TT mm := by
  refine ⟨fun i hi => ?_, H.2⟩
  obtain ⟨a1, a2, a3⟩ := H.1 i hi
  refine ⟨a1.keep K (fun x hx r => ?_), a2, a3⟩
  obtain ⟨b1, b2, b3, b4⟩ := a3 x hx
  rcases q x r with e | e | e
  · exact b3 e
  · exact b4 e
  · exact absurd b2 (Nat.not_lt.mpr e)
theorem FAM.mono {mm' : Nat} (H : FAM Z h n n0 z tb pr pa FF KK VV TT mm) (q : mm ≤ mm') : FAM Z h n n0 z tb pr pa FF KK VV TT mm' := ⟨fun i hi => ⟨(H.1 i hi).1, (H.1 i hi).2.1.mono q, (H.1 i hi).2.2⟩, H.2⟩
theorem FAM.snoc (H : FAM Z h n n0 z tb pr pa FF KK VV TT mm) {o : Addr} {Fo : List Addr} (hT : PT Z h o Fo (KK n) (VV n) (TT n)) (hP : PI hm (KK n) (VV n) (TT n) mm) (hs : ∀ x ∈ Fo, z ≤ x ∧ n0 ≤ x ∧ x ≠ tb ∧ x ≠ pr) (hz : z ≤ h.size) : FAM Z h (n + 1) n0 h.size tb pr (upd pa n o) (upd FF n Fo) KK VV TT mm := by
  refine ⟨fun i hi => ?_, fun i j hi hj ne x hx hx' => ?_⟩
  · by_cases q : i = n
    · subst q
      rw [upd_hit, upd_hit]
      exact ⟨hT, hP, fun x hx => ⟨(hs x hx).2.1, hT.lt x hx, (hs x hx).2.2⟩⟩
    · rw [upd_miss q, upd_miss q]
      obtain ⟨a1, a2, a3⟩ := H.1 i (by omega)
      exact ⟨a1, a2, fun x hx => ⟨(a3 x hx).1, Nat.lt_of_lt_of_le (a3 x hx).2.1 hz, (a3 x hx).2.2⟩⟩
  · by_cases q : i = n
    · subst q
      rw [upd_hit] at hx
      rw [upd_miss (fun r => ne r.symm)] at hx'
      exact absurd ((H.1 j (by omega)).2.2 x hx').2.1 (Nat.not_lt.mpr (hs x hx).1)
    · rw [upd_miss q] at hx
      by_cases r : j = n
      · subst r
        rw [upd_hit] at hx'
        exact absurd ((H.1 i (by omega)).2.2 x hx).2.1 (Nat.not_lt.mpr (hs x hx').1)
      · rw [upd_miss r] at hx'
        exact H.2 i j (by omega) (by omega) ne x hx hx'
/-- one part has been worked on -/
theorem own_B (H : FAM Z h 64 n0 z tb pr pa FF KK VV TT mm) {i : Nat} (hi : i < 64) (hz : z ≤ h.size) (htb : tb < h.size) (hpr : pr < h.size) (hn : n0 ≤ h.size) (Kq : Keep h h' (FF i)) {F' : List Addr} {kf' vf' : Nat → Int64} {tk' : Int32} (hT : PT Z h' (pa i) F' kf' vf' tk') (hs : ∀ x ∈ F', x ∈ FF i ∨ h.size ≤ x) (hP : PI hm kf' vf' tk' (mm + 1)) {Wl : List Addr} (wtb : tb ∈ Wl) (wpr : pr ∈ Wl) (wF : ∀ j, j < 64 → ∀ x ∈ FF j, x ∈ Wl) (wW : ∀ x ∈ Wl, n0 ≤ x ∧ x < z) :
    FAM Z h' 64 n0 h'.size tb pr pa (upd FF i F') (upd KK i kf') (upd VV i vf') (upd TT i tk') (mm + 1) ∧ (tb ∈ Wl ++ F' ∧ pr ∈ Wl ++ F' ∧ (∀ j, j < 64 → ∀ x ∈ upd FF i F' j, x ∈ Wl ++ F') ∧ ∀ x ∈ Wl ++ F', n0 ≤ x ∧ x < h'.size) ∧ ∀ x ∈ Wl ++ F', x ∈ Wl ∨ h.size ≤ x := by
  have hF : ∀ x ∈ F', n0 ≤ x ∧ x < h'.size ∧ x ≠ tb ∧ x ≠ pr := fun x hx => by
    have a1 := hT.lt x hx
    rcases hs x hx with q | q
    · have b := (H.1 i hi).2.2 x q
      exact ⟨b.1, a1, b.2.2⟩
    · exact ⟨Nat.le_trans hn q, a1, Nat.ne_of_gt (Nat.lt_of_lt_of_le htb q), Nat.ne_of_gt (Nat.lt_of_lt_of_le hpr q)⟩
  have hzz : z ≤ h'.size := Nat.le_trans hz Kq.1
  refine ⟨⟨fun j hj => ?_, fun a b ha hb ne x hx hx' => ?_⟩, ⟨List.mem_append_left _ wtb, List.mem_append_left _ wpr, fun j hj x hx => ?_, fun x hx => ?_⟩, fun x hx => ?_⟩
  · by_cases q : j = i
    · subst q
      rw [upd_hit, upd_hit, upd_hit, upd_hit]
      exact ⟨hT, hP, hF⟩
    · rw [upd_miss q, upd_miss q, upd_miss q, upd_miss q]
      obtain ⟨a1, a2, a3⟩ := H.1 j hj
      exact ⟨a1.keep Kq (fun x hx => H.2 j i hj hi q x hx), a2.mono (Nat.le_succ _), fun x hx => ⟨(a3 x hx).1, Nat.lt_of_lt_of_le (a3 x hx).2.1 hzz, (a3 x hx).2.2⟩⟩
  · by_cases q : a = i
    · subst q
      rw [upd_hit] at hx
      rw [upd_miss (fun r => ne r.symm)] at hx'
      rcases hs x hx with r | r
      · exact H.2 a b ha hb ne x r hx'
      · exact absurd ((H.1 b hb).2.2 x hx').2.1 (Nat.not_lt.mpr (Nat.le_trans hz r))
    · rw [upd_miss q] at hx
      by_cases r : b = i
      · subst r
        rw [upd_hit] at hx'
        rcases hs x hx' with r' | r'
        · exact H.2 a b ha hb ne x hx r'
        · exact absurd ((H.1 a ha).2.2 x hx).2.1 (Nat.not_lt.mpr (Nat.le_trans hz r'))
      · rw [upd_miss r] at hx'
        exact H.2 a b ha hb ne x hx hx'
  · by_cases q : j = i
    · subst q; rw [upd_hit] at hx; exact List.mem_append_right _ hx
    · rw [upd_miss q] at hx; exact List.mem_append_left _ (wF j hj x hx)
  · rcases List.mem_append.mp hx with q | q
    · exact ⟨(wW x q).1, Nat.lt_of_lt_of_le (wW x q).2 hzz⟩
    · exact ⟨(hF x q).1, (hF x q).2.1⟩
  · rcases List.mem_append.mp hx with q | q
    · exact Or.inl q
    · exact (hs x q).elim (fun r => Or.inl (wF i hi x r)) Or.inr
end FAM
/-- the table tb, its objects Wl, behind mm operations, bears the map M -/
def TBL (Z : State) (h : Heap) (n0 : Nat) (tb : Addr) (Wl : List Addr) (mm : Nat) (M : Int64 → Int64 → Prop) : Prop :=
  ∃ (pr : Addr) (pa : Nat → Addr) (FF : Nat → List Addr) (KK VV : Nat → Nat → Int64) (TT : Nat → Int32) (hzv szv : Int32) (zvv : Int64) (zz : Nat), Exa Z h tb "com/example/clockwrap/clockwrap/store/LongTable" ∧ Fld Z h tb "com/example/clockwrap/clockwrap/store/LongTable" "parts" "[Lcom/example/clockwrap/clockwrap/store/LongTable$Part;" (.ref pr) ∧ Fld Z h tb "com/example/clockwrap/clockwrap/store/LongTable" "size" "I" (.int szv) ∧ Fld Z h tb "com/example/clockwrap/clockwrap/store/LongTable" "hasZero" "Z" (.int hzv) ∧ Fld Z h tb "com/example/clockwrap/clockwrap/store/LongTable" "zeroValue" "J" (.long zvv) ∧ Ara Z h pr (.object "com/example/clockwrap/clockwrap/store/LongTable$Part") 64 (fun i => .ref (pa i)) ∧ FAM Z h 64 n0 zz tb pr pa FF KK VV TT mm ∧ zz ≤ h.size ∧ tb ≠ pr ∧ n0 ≤ tb ∧
    (tb ∈ Wl ∧ pr ∈ Wl ∧ (∀ j, j < 64 → ∀ x ∈ FF j, x ∈ Wl) ∧ ∀ x ∈ Wl, n0 ≤ x ∧ x < zz) ∧ (hzv = 1 ∨ hzv = 0) ∧ (hzv = 0 → zvv = 0) ∧ (∀ k v, k ≠ 0 → (M k v ↔ In (KK (ix k)) (VV (ix k)) k v)) ∧ ∀ v, M 0 v ↔ hzv = 1 ∧ v = zvv
section TBL
variable {Z : State} {h h' : Heap} {n0 : Nat} {tb : Addr} {Wl ws : List Addr} {mm : Nat} {M : Int64 → Int64 → Prop}
theorem TBL.exa (T : TBL Z h n0 tb Wl mm M) : Exa Z h tb "com/example/clockwrap/clockwrap/store/LongTable" := by obtain ⟨_, _, _, _, _, _, _, _, _, _, E, -⟩ := T; exact E
theorem TBL.lt (T : TBL Z h n0 tb Wl mm M) : ∀ x ∈ Wl, n0 ≤ x ∧ x < h.size := by
  obtain ⟨_, _, _, _, _, _, _, _, _, zz, -, -, -, -, -, -, -, hzl, -, -, ⟨-, -, -, w⟩, -⟩ := T
  exact fun x hx => ⟨(w x hx).1, Nat.lt_of_lt_of_le (w x hx).2 hzl⟩
theorem TBL.keep (T : TBL Z h n0 tb Wl mm M) (K : Keep h h' ws) (q : ∀ x ∈ ws, x ∉ Wl) : TBL Z h' n0 tb Wl mm M := by
  obtain ⟨pr, pa, FF, KK, VV, TT, hzv, szv, zvv, zz, E, Fp, Fs, Fh, Fz, Vp, H, hzl, nop, geo, ⟨wtb, wpr, wF, wW⟩, r⟩ := T
  have a : tb ∉ ws := fun z => q _ z wtb
  have b : pr ∉ ws := fun z => q _ z wpr
  exact ⟨pr, pa, FF, KK, VV, TT, hzv, szv, zvv, zz, E.keep K, Fp.keep K a, Fs.keep K a, Fh.keep K a, Fz.keep K a, Vp.keep K b, ⟨fun i hi => ⟨(H.1 i hi).1.keep K (fun x hx z => q x z (wF i hi x hx)), (H.1 i hi).2⟩, H.2⟩, Nat.le_trans hzl K.1, nop, geo, ⟨wtb, wpr, wF, wW⟩, r⟩
theorem own_tbl0 {pr : Addr} {pa : Nat → Addr} {FF : Nat → List Addr} (E : Exa Z h tb "com/example/clockwrap/clockwrap/store/LongTable") (Fp : Fld Z h tb "com/example/clockwrap/clockwrap/store/LongTable" "parts" "[Lcom/example/clockwrap/clockwrap/store/LongTable$Part;" (.ref pr)) (Fs : Fld Z h tb "com/example/clockwrap/clockwrap/store/LongTable" "size" "I" (.int (0 : Int32))) (Fh : Fld Z h tb "com/example/clockwrap/clockwrap/store/LongTable" "hasZero" "Z" (.int (0 : Int32))) (Fz : Fld Z h tb "com/example/clockwrap/clockwrap/store/LongTable" "zeroValue" "J" (.long (0 : Int64))) (Vp : Ara Z h pr (.object "com/example/clockwrap/clockwrap/store/LongTable$Part") 64 (fun i => if i < 64 then .ref (pa i) else .null)) (H : FAM Z h 64 n0 h.size tb pr pa FF (fun _ _ => 0) (fun _ _ => 0) (fun _ => 0) 0) (nop : tb ≠ pr) (geo : n0 ≤ tb) (gep : n0 ≤ pr) : TBL Z h n0 tb (tb :: pr :: (List.range 64).flatMap FF) 0 eM := by
  refine ⟨pr, pa, FF, fun _ _ => 0, fun _ _ => 0, fun _ => 0, 0, 0, 0, h.size, E, Fp, Fs, Fh, Fz, Vp.congr (fun i hi => if_pos hi), H, Nat.le_refl _, nop, geo, ⟨.head _, .tail _ (.head _), fun j hj x hx => .tail _ (.tail _ (List.mem_flatMap.mpr ⟨j, List.mem_range.mpr hj, hx⟩)), allS ⟨geo, E.lt⟩ (allS ⟨gep, Vp.lt⟩ (fun x hx => ?_))⟩, Or.inr rfl, fun _ => rfl, fun k v hk => ⟨fun q => False.elim q, fun ⟨s, _, e, _⟩ => hk e.symm⟩, fun v => ⟨fun q => False.elim q, fun q => absurd q.1 (by decide)⟩⟩
  obtain ⟨j, hj, hx⟩ := List.mem_flatMap.mp hx
  have a := (H.1 j (List.mem_range.mp hj)).2.2 x hx
  exact ⟨a.1, a.2.1⟩
theorem own_rel {KK VV : Nat → Nat → Int64} {kf' vf' : Nat → Int64} {key : Int64} {R : (Int64 → Int64 → Prop) → Int64 → Int64 → Prop} (hM : ∀ k v, k ≠ 0 → (M k v ↔ In (KK (ix k)) (VV (ix k)) k v)) (hk : key ≠ 0) (hl : Lcl key R) (hr : ∀ kk vv, kk ≠ 0 → (In kf' vf' kk vv ↔ R (In (KK (ix key)) (VV (ix key))) kk vv)) :
    ∀ k v, k ≠ 0 → (R M k v ↔ In (upd KK (ix key) kf' (ix k)) (upd VV (ix key) vf' (ix k)) k v) := fun k v h0 => by
  by_cases q : ix k = ix key
  · rw [q, upd_hit, upd_hit, hr k v h0]
    exact hl.1 _ _ k v (fun w => hM key w hk) (fun w => by rw [hM k w h0, q])
  · rw [upd_miss q, upd_miss q, hl.2 M k v (fun r => q (by rw [r]))]
    exact hM k v h0
variable {key val zvv : Int64} {hzv : Int32}
theorem own_add0 (h : key = 0) (h01 : hzv = 1 ∨ hzv = 0) (hz0 : hzv = 0 → zvv = 0) (hM0 : ∀ v, M 0 v ↔ hzv = 1 ∧ v = zvv) : ∀ v, addM key M 0 v ↔ (1 : Int32) = 1 ∧ v = zvv := fun v => by
  subst h
  unfold addM
  rw [if_pos rfl]
  rcases h01 with q | q
  · exact ⟨fun z => z.elim (fun y => absurd ((hM0 zvv).mpr ⟨q, rfl⟩) (y.2 zvv)) (fun y => ⟨rfl, ((hM0 v).mp y).2⟩), fun z => Or.inr ((hM0 v).mpr ⟨q, z.2⟩)⟩
  · have no : ∀ w, ¬ M 0 w := fun w y => absurd (q.symm.trans ((hM0 w).mp y).1) (by decide)
    exact ⟨fun z => z.elim (fun y => ⟨rfl, y.1.trans (hz0 q).symm⟩) (fun y => absurd y (no v)), fun z => Or.inl ⟨z.2.trans (hz0 q), no⟩⟩
theorem own_rem0 (h : key = 0) : ∀ v, remM key M 0 v ↔ (0 : Int32) = 1 ∧ v = (0 : Int64) := fun v => ⟨fun z => absurd h.symm z.1, fun z => absurd z.1 (by decide)⟩
theorem own_put0 (h : key = 0) : ∀ v, putM key val M 0 v ↔ (1 : Int32) = 1 ∧ v = val := fun v => by
  unfold putM; rw [if_pos h.symm]; exact ⟨fun z => ⟨rfl, z⟩, fun z => z.2⟩
end TBL
theorem ef_rm1 (m : MethodId) (o0 : Addr) : entryFrame m #[(.ref o0)] 2 = mkF m 0 #[.val (.ref o0), .unset] [] := by first | (simp [entryFrame, mkF, argsToLocals, Value.category]; done) | rfl
theorem pn_2 : plainName "com/example/clockwrap/clockwrap/store/LongTable" = true := by first | (simp [plainName, overriddenIn]; done) | decide +kernel
def Q_rm1 (Z : State) (o0 : Addr)  (h0 : Heap) (n0 : Nat) (v : Option Value) (h : Heap) (L : List Loc) : Prop := ∃ Wl : List Addr, v = none ∧ Fr n0 L ∧ Keep h0 h [o0] ∧ TBL Z h n0 o0 Wl 0 eM
theorem d1_0 : decode prog_32_method_1_code 0 = .ok (.aload_n 0, 1) := by decide +kernel
theorem d1_1 : decode prog_32_method_1_code 1 = .ok (.invokespecial 3, 3) := by decide +kernel
theorem d1_4 : decode prog_32_method_1_code 4 = .ok (.aload_n 0, 1) := by decide +kernel
theorem d1_5 : decode prog_32_method_1_code 5 = .ok (.bipush 64, 2) := by decide +kernel
theorem d1_7 : decode prog_32_method_1_code 7 = .ok (.anewarray 9, 3) := by decide +kernel
theorem d1_10 : decode prog_32_method_1_code 10 = .ok (.putfield 11, 3) := by decide +kernel
theorem d1_13 : decode prog_32_method_1_code 13 = .ok (.iconst 0, 1) := by decide +kernel
theorem d1_14 : decode prog_32_method_1_code 14 = .ok (.istore_n 1, 1) := by decide +kernel
theorem d1_15 : decode prog_32_method_1_code 15 = .ok (.iload_n 1, 1) := by decide +kernel
theorem d1_16 : decode prog_32_method_1_code 16 = .ok (.bipush 64, 2) := by decide +kernel
theorem d1_18 : decode prog_32_method_1_code 18 = .ok (.if_icmp .ge 22, 3) := by decide +kernel
theorem d1_40 : decode prog_32_method_1_code 40 = .ok (.return_, 1) := by decide +kernel
theorem d1_21 : decode prog_32_method_1_code 21 = .ok (.aload_n 0, 1) := by decide +kernel
theorem d1_22 : decode prog_32_method_1_code 22 = .ok (.getfield 11, 3) := by decide +kernel
theorem d1_25 : decode prog_32_method_1_code 25 = .ok (.iload_n 1, 1) := by decide +kernel
theorem d1_26 : decode prog_32_method_1_code 26 = .ok (.new 9, 3) := by decide +kernel
theorem d1_29 : decode prog_32_method_1_code 29 = .ok (.dup, 1) := by decide +kernel
theorem pd_4 : parseMethodDescriptor "()V" = some ⟨[], none⟩ := by decide +kernel
theorem d1_30 : decode prog_32_method_1_code 30 = .ok (.invokespecial 15, 3) := by decide +kernel
theorem d1_33 : decode prog_32_method_1_code 33 = .ok (.aastore, 1) := by decide +kernel
theorem d1_34 : decode prog_32_method_1_code 34 = .ok (.iinc 1 1, 3) := by decide +kernel
theorem d1_37 : decode prog_32_method_1_code 37 = .ok (.goto (-22), 3) := by decide +kernel
set_option maxRecDepth 65536 in
set_option maxHeartbeats 40000000 in
theorem rm1 (l : Launch) (Z : State) (a0 : Array Value) (hw : ∀ d ∈ tables_1, d.before a0 Z = true) (ws : List Jvm.Cond) (o0 : Addr)  (h0 : Heap) (n0 : Nat) (Z0 : n0 ≤ h0.size) (geo : n0 ≤ o0) (E0 : Exa Z h0 o0 "com/example/clockwrap/clockwrap/store/LongTable") (F_parts : Fld Z h0 o0 "com/example/clockwrap/clockwrap/store/LongTable" "parts" "[Lcom/example/clockwrap/clockwrap/store/LongTable$Part;" .null) (F_size : Fld Z h0 o0 "com/example/clockwrap/clockwrap/store/LongTable" "size" "I" (.int (0 : Int32))) (F_hasZero : Fld Z h0 o0 "com/example/clockwrap/clockwrap/store/LongTable" "hasZero" "Z" (.int (0 : Int32))) (F_zeroValue : Fld Z h0 o0 "com/example/clockwrap/clockwrap/store/LongTable" "zeroValue" "J" (.long (0 : Int64))) :
    MetFree l (⟨"com/example/clockwrap/clockwrap/store/LongTable", "<init>", "()V"⟩ : MethodName) (head1 (Jvm.Cond.code (⟨"com/example/clockwrap/clockwrap/store/LongTable", "<init>", "()V"⟩ : MethodName) prog_32_method_1_code 2 none :: ws) ({ frames := 2, cells := 129, slots := 1344, locals := 60 } : Room)) (fun a U => a = #[(.ref o0)] ∧ Z.Warmed39 U.vm ∧ U.heap = h0) (fun _ _ _ _ _ => True) (fun _ U o U' => ∃ v L, o = .returned v ∧ (Q_rm1 Z o0 h0 n0) v U'.heap L ∧ FrameEnd U o U' L ({ frames := 2, cells := 129, slots := 1344, locals := 60 } : Room).cells ({ frames := 2, cells := 129, slots := 1344, locals := 60 } : Room).slots) := by
  refine MetFree.of_bodySF (plainFor_of_name pn_2) hisR ?_
  intro p e s m args below meth c s₁ Bd hml0 hP hK
  obtain ⟨rfl, hZ, hh⟩ := hP
  have hx := Bd.exec
  have hby := Bd.bytes
  have hml : c.maxLocals = 2 := hml0
  have hown : s.vm.findClass "com/example/clockwrap/clockwrap/store/LongTable" = some m.cls := findClass_of_methodNamed Bd.named
  have hnm := (name_of_methodNamed Bd.named Bd.method).1
  have X0 : Stand p l e ({ frames := 2, cells := 129, slots := 1344, locals := 60 } : Room) s m #[(.ref o0)] below meth c s₁ [] 0 0 := Stand.of_body Bd
  have e0 : s₁.heap = h0 := by rw [← hh, Bd.state]; rfl
  have N0 := Fr.nil n0
  show OFin p e below (ORet (Q_rm1 Z o0 h0 n0) s ({ frames := 2, cells := 129, slots := 1344, locals := 60 } : Room).cells ({ frames := 2, cells := 129, slots := 1344, locals := 60 } : Room).slots) (s₁.setTop (entryFrame m #[(.ref o0)] 2))
  refine OFin.go (fun t k => castTop (ef_rm1 m o0) k) ?_
  have K0 := Keep.refl h0 [o0]
  show OFin p e below (ORet (Q_rm1 Z o0 h0 n0) s ({ frames := 2, cells := 129, slots := 1344, locals := 60 } : Room).cells ({ frames := 2, cells := 129, slots := 1344, locals := 60 } : Room).slots) (s₁.setTop (mkF m 0 #[.val (.ref o0), .unset] []))
  have S1 : ∀ t, Steps p.tables e below (s₁.setTop (mkF m 1 #[.val (.ref o0), .unset] [(.ref o0)])) t → Steps p.tables e below (s₁.setTop (mkF m 0 #[.val (.ref o0), .unset] [])) t := by
    intro t k
    show Steps p.tables e below (s₁.setTop (mkF m 0 #[.val (.ref o0), .unset] [])) t
    refine XS.aloadN X0.here hx rfl (hb hby d1_0) rfl rfl ?_
    exact k
  refine OFin.go S1 ?_
  obtain ⟨T2, X2, e2, st2⟩ := initO X0 hx hZ hown (hw _ (List.mem_of_getElem? (i := 10) rfl)) (hw _ (List.mem_of_getElem? (i := 11) rfl)) (hw _ (List.mem_of_getElem? (i := 12) rfl)) e0 (g := (mkF m 1 #[.val (.ref o0), .unset] [(.ref o0)])) rfl (by rw [hml]; rfl) rfl (hb hby d1_1) (by decide) (W := 0) (by show 2 * 0 + _ ≤ _; exact Nat.le_of_eq rfl) (by decide)
  refine OFin.go st2 ?_
  show OFin p e below _ (T2.setTop (mkF m 4 #[.val (.ref o0), .unset] []))
  have S3 : ∀ t, Steps p.tables e below (T2.setTop (mkF m 7 #[.val (.ref o0), .unset] [(.int (64 : Int32)), (.ref o0)])) t → Steps p.tables e below (T2.setTop (mkF m 4 #[.val (.ref o0), .unset] [])) t := by
    intro t k
    show Steps p.tables e below (T2.setTop (mkF m 4 #[.val (.ref o0), .unset] [])) t
    refine XS.aloadN X2.here hx rfl (hb hby d1_4) rfl rfl ?_
    show Steps p.tables e below (T2.setTop (mkF m 5 #[.val (.ref o0), .unset] [(.ref o0)])) t
    refine XS.bipush X2.here hx rfl (hb hby d1_5) ?_
    exact k
  refine OFin.go S3 ?_
  obtain ⟨T4, h4, k4, X4, e4, E4, A4, O4v, st4⟩ := newR X2 hx hZ hown (hw _ (List.mem_of_getElem? (i := 13) rfl)) (hw _ (List.mem_of_getElem? (i := 14) rfl)) e2 (g := (mkF m 7 #[.val (.ref o0), .unset] [(.int (64 : Int32)), (.ref o0)])) rfl (hb hby d1_7) rfl (by decide) (cap := 64) (by decide) (by decide) (Nat.le_of_ble_eq_true rfl) (Nat.le_of_ble_eq_true rfl)
  obtain ⟨b4, g4⟩ : ∃ z, z = h0.size := ⟨_, rfl⟩
  rw [← g4] at A4 st4
  have q5 : o0 ≠ b4 := up_lt E0.lt g4
  have ge4 : n0 ≤ b4 := Nat.le_trans Z0 (Nat.le_of_eq g4.symm)
  have Z4 : n0 ≤ h4.size := Nat.le_trans Z0 E4.1
  have sz4 : h0.size ≤ b4 := Nat.le_trans K0.1 (Nat.le_of_eq g4.symm)
  have K4 := Keep.ext K0 E4
  have V4 : Ara Z h4 b4 (.object "com/example/clockwrap/clockwrap/store/LongTable$Part") 64 (fun _ => .null) := Ara.new A4 rfl
  have O4 : OvA Z h4 b4 "com/example/clockwrap/clockwrap/store/LongTable$Part" := ⟨_, A4.1, O4v⟩
  refine OFin.go st4 ?_
  show OFin p e below _ (T4.setTop (mkF m 10 #[.val (.ref o0), .unset] [(.ref b4), (.ref o0)]))
  have F6 := F_parts.ext E4
  have F7 := E0.ext E4
  obtain ⟨T8, h8, X8, e8, W8, st8⟩ := putF X4 hx hZ hown (host := "") (Or.inl (hw _ (List.mem_of_getElem? (i := 15) rfl))) Via.refl e4 F6 F7 (Or.inr ⟨(hw _ (List.mem_of_getElem? (i := 16) rfl)), rfl, hnm⟩) (hw _ (List.mem_of_getElem? (i := 5) rfl)) (ty := (.array (.object "com/example/clockwrap/clockwrap/store/LongTable$Part"))) (by decide) rfl rfl (g := (mkF m 10 #[.val (.ref o0), .unset] [(.ref b4), (.ref o0)])) rfl rfl (hb hby d1_10)
  have Fw8 := F6.same W8
  have N8 := Fr.snoc X8 N0 geo
  have Z8 : n0 ≤ h8.size := Nat.le_trans Z4 (wr_le W8)
  have K8 := Keep.wr K4 W8 (Or.inl (List.mem_of_getElem? (i := 0) rfl))
  refine OFin.go st8 ?_
  show OFin p e below _ (T8.setTop (mkF m 13 #[.val (.ref o0), .unset] []))
  have S9 : ∀ t, Steps p.tables e below (T8.setTop (mkF m 15 #[.val (.ref o0), .val (.int (0 : Int32))] [])) t → Steps p.tables e below (T8.setTop (mkF m 13 #[.val (.ref o0), .unset] [])) t := by
    intro t k
    show Steps p.tables e below (T8.setTop (mkF m 13 #[.val (.ref o0), .unset] [])) t
    refine XS.iconst X8.here hx rfl (hb hby d1_13) ?_
    show Steps p.tables e below (T8.setTop (mkF m 14 #[.val (.ref o0), .unset] [(.int (0 : Int32))])) t
    refine XS.istoreN X8.here hx rfl (hb hby d1_14) rfl (l' := #[.val (.ref o0), .val (.int (0 : Int32))]) rfl ?_
    exact k
  refine OFin.go S9 ?_
  have LOOP10 : ∀ (k : Nat) (Tk : State) (lo_ : List Loc) (ce_ sl_ : Nat) (Xk : Stand p l e ({ frames := 2, cells := 129, slots := 1344, locals := 60 } : Room) s m #[(.ref o0)] below meth c Tk lo_ ce_ sl_) (Hk : Heap) (ek : Tk.heap = Hk) (Nk : Fr n0 lo_) (hce_ : ce_ + 2 * k ≤ 129 ∧ sl_ + 20 * k ≤ 1344) (Zk : n0 ≤ Hk.size) (Kk : Keep h0 Hk [o0]) (ii : Int32) (nn : Nat) (pa : Nat → Addr) (FF : Nat → List Addr) (Ek : Exa Z Hk o0 "com/example/clockwrap/clockwrap/store/LongTable") (Fpartsk : Fld Z Hk o0 "com/example/clockwrap/clockwrap/store/LongTable" "parts" "[Lcom/example/clockwrap/clockwrap/store/LongTable$Part;" (.ref b4)) (Fsizek : Fld Z Hk o0 "com/example/clockwrap/clockwrap/store/LongTable" "size" "I" (.int (0 : Int32))) (FhasZerok : Fld Z Hk o0 "com/example/clockwrap/clockwrap/store/LongTable" "hasZero" "Z" (.int (0 : Int32))) (FzeroValuek : Fld Z Hk o0 "com/example/clockwrap/clockwrap/store/LongTable" "zeroValue" "J" (.long (0 : Int64))) (Vk : Ara Z Hk b4 (.object "com/example/clockwrap/clockwrap/store/LongTable$Part") 64 (fun i => if i < nn then .ref (pa i) else .null)) (Ok : OvA Z Hk b4 "com/example/clockwrap/clockwrap/store/LongTable$Part") (Mk : FAM Z Hk nn n0 Hk.size o0 b4 pa FF (fun _ _ => 0) (fun _ _ => 0) (fun _ => 0) 0), (nn + k = 64 ∧ ii.toInt = nn) → OFin p e below (ORet (Q_rm1 Z o0 h0 n0) s ({ frames := 2, cells := 129, slots := 1344, locals := 60 } : Room).cells ({ frames := 2, cells := 129, slots := 1344, locals := 60 } : Room).slots) (Tk.setTop (mkF m 15 #[.val (.ref o0), .val (.int ii)] [])) := by
    intro k
    induction k with
    | zero =>
      intro Tk lo_ ce_ sl_ Xk Hk ek Nk hce_ Zk Kk ii nn pa FF Ek Fpartsk Fsizek FhasZerok FzeroValuek Vk Ok Mk hinv
      obtain ⟨hn1, hn2⟩ := hinv
      obtain rfl : nn = 64 := by omega
      have S11 : ∀ t, Steps p.tables e below (Tk.setTop (mkF m 18 #[.val (.ref o0), .val (.int ii)] [(.int (64 : Int32)), (.int ii)])) t → Steps p.tables e below (Tk.setTop (mkF m 15 #[.val (.ref o0), .val (.int ii)] [])) t := by
        intro t k
        show Steps p.tables e below (Tk.setTop (mkF m 15 #[.val (.ref o0), .val (.int ii)] [])) t
        refine XS.iloadN Xk.here hx rfl (hb hby d1_15) rfl ?_
        show Steps p.tables e below (Tk.setTop (mkF m 16 #[.val (.ref o0), .val (.int ii)] [(.int ii)])) t
        refine XS.bipush Xk.here hx rfl (hb hby d1_16) ?_
        exact k
      refine OFin.go S11 ?_
      have S12 : ∀ t, Steps p.tables e below (Tk.setTop (mkF m 40 #[.val (.ref o0), .val (.int ii)] [])) t → Steps p.tables e below (Tk.setTop (mkF m 18 #[.val (.ref o0), .val (.int ii)] [(.int (64 : Int32)), (.int ii)])) t := by
        intro t k
        show Steps p.tables e below (Tk.setTop (mkF m 18 #[.val (.ref o0), .val (.int ii)] [(.int (64 : Int32)), (.int ii)])) t
        refine XS.icmpYes Xk.here hx rfl (pc0 := 18) (pc' := 40) rfl (hb hby d1_18) rfl (flt (by rw [Int32.lt_iff_toInt_lt]; simp only [Int32.reduceToInt]; omega)).2.1 (by decide) (by decide) ?_
        exact k
      refine OFin.go S12 ?_
      exact finV Xk hx Bd.notSynchronized Bd.returns (hb hby d1_40) (by show ce_ ≤ 129; omega) (by show sl_ ≤ 1344; omega) (by rw [ek]; exact ⟨_, rfl, Nk, Kk, own_tbl0 Ek Fpartsk Fsizek FhasZerok FzeroValuek Vk Mk q5 geo ge4⟩)
    | succ k ih =>
      intro Tk lo_ ce_ sl_ Xk Hk ek Nk hce_ Zk Kk ii nn pa FF Ek Fpartsk Fsizek FhasZerok FzeroValuek Vk Ok Mk hinv
      obtain ⟨hn1, hn2⟩ := hinv
      have S13 : ∀ t, Steps p.tables e below (Tk.setTop (mkF m 18 #[.val (.ref o0), .val (.int ii)] [(.int (64 : Int32)), (.int ii)])) t → Steps p.tables e below (Tk.setTop (mkF m 15 #[.val (.ref o0), .val (.int ii)] [])) t := by
        intro t k
        show Steps p.tables e below (Tk.setTop (mkF m 15 #[.val (.ref o0), .val (.int ii)] [])) t
        refine XS.iloadN Xk.here hx rfl (hb hby d1_15) rfl ?_
        show Steps p.tables e below (Tk.setTop (mkF m 16 #[.val (.ref o0), .val (.int ii)] [(.int ii)])) t
        refine XS.bipush Xk.here hx rfl (hb hby d1_16) ?_
        exact k
      refine OFin.go S13 ?_
      have S14 : ∀ t, Steps p.tables e below (Tk.setTop (mkF m 21 #[.val (.ref o0), .val (.int ii)] [])) t → Steps p.tables e below (Tk.setTop (mkF m 18 #[.val (.ref o0), .val (.int ii)] [(.int (64 : Int32)), (.int ii)])) t := by
        intro t k
        show Steps p.tables e below (Tk.setTop (mkF m 18 #[.val (.ref o0), .val (.int ii)] [(.int (64 : Int32)), (.int ii)])) t
        refine XS.icmpNo Xk.here hx rfl (hb hby d1_18) rfl (tlt (by rw [Int32.lt_iff_toInt_lt]; simp only [Int32.reduceToInt]; omega)).2.1 ?_
        exact k
      refine OFin.go S14 ?_
      have S15 : ∀ t, Steps p.tables e below (Tk.setTop (mkF m 22 #[.val (.ref o0), .val (.int ii)] [(.ref o0)])) t → Steps p.tables e below (Tk.setTop (mkF m 21 #[.val (.ref o0), .val (.int ii)] [])) t := by
        intro t k
        show Steps p.tables e below (Tk.setTop (mkF m 21 #[.val (.ref o0), .val (.int ii)] [])) t
        refine XS.aloadN Xk.here hx rfl (hb hby d1_21) rfl rfl ?_
        exact k
      refine OFin.go S15 ?_
      obtain ⟨T16, X16, e16, st16⟩ := getF Xk hx hZ hown (host := "") (Or.inl (hw _ (List.mem_of_getElem? (i := 15) rfl))) Via.refl ek Fpartsk (g := (mkF m 22 #[.val (.ref o0), .val (.int ii)] [(.ref o0)])) rfl rfl (hb hby d1_22)
      refine OFin.go st16 ?_
      show OFin p e below _ (T16.setTop (mkF m 25 #[.val (.ref o0), .val (.int ii)] [(.ref b4)]))
      have S17 : ∀ t, Steps p.tables e below (T16.setTop (mkF m 26 #[.val (.ref o0), .val (.int ii)] [(.int ii), (.ref b4)])) t → Steps p.tables e below (T16.setTop (mkF m 25 #[.val (.ref o0), .val (.int ii)] [(.ref b4)])) t := by
        intro t k
        show Steps p.tables e below (T16.setTop (mkF m 25 #[.val (.ref o0), .val (.int ii)] [(.ref b4)])) t
        refine XS.iloadN X16.here hx rfl (hb hby d1_25) rfl ?_
        exact k
      refine OFin.go S17 ?_
      obtain ⟨T18, h18, X18, e18, E18, A18, D18, -, st18⟩ := newO X16 hx hZ hown (hw _ (List.mem_of_getElem? (i := 13) rfl)) (hw _ (List.mem_of_getElem? (i := 17) rfl)) (hw _ (List.mem_of_getElem? (i := 18) rfl)) e16 (g := (mkF m 26 #[.val (.ref o0), .val (.int ii)] [(.int ii), (.ref b4)])) rfl (hb hby d1_26) (by show ce_ + 1 ≤ 129; omega) (by show sl_ + 4 ≤ 1344; omega)
      obtain ⟨b18, g18⟩ : ∃ z, z = Hk.size := ⟨_, rfl⟩
      rw [← g18] at A18 D18 st18
      have q19 : o0 ≠ b18 := up_lt Ek.lt g18
      have q20 : b4 ≠ b18 := up_lt Vk.lt g18
      have ge18 : n0 ≤ b18 := Nat.le_trans Zk (Nat.le_of_eq g18.symm)
      have Z18 : n0 ≤ h18.size := Nat.le_trans Zk E18.1
      have sz18 : h0.size ≤ b18 := Nat.le_trans Kk.1 (Nat.le_of_eq g18.symm)
      have K18 := Keep.ext Kk E18
      have F18_keys : Fld Z h18 b18 "com/example/clockwrap/clockwrap/store/LongTable$Part" "keys" "[J" .null := D18 (Or.inl (hw _ (List.mem_of_getElem? (i := 25) rfl))) (ty := (.array .long)) (by decide)
      have F18_shift : Fld Z h18 b18 "com/example/clockwrap/clockwrap/store/LongTable$Part" "shift" "I" (.int (0 : Int32)) := D18 (Or.inl (hw _ (List.mem_of_getElem? (i := 32) rfl))) (ty := .int) (by decide)
      have F18_values : Fld Z h18 b18 "com/example/clockwrap/clockwrap/store/LongTable$Part" "values" "[J" .null := D18 (Or.inl (hw _ (List.mem_of_getElem? (i := 63) rfl))) (ty := (.array .long)) (by decide)
      have F18_taken : Fld Z h18 b18 "com/example/clockwrap/clockwrap/store/LongTable$Part" "taken" "I" (.int (0 : Int32)) := D18 (Or.inl (hw _ (List.mem_of_getElem? (i := 65) rfl))) (ty := .int) (by decide)
      refine OFin.go st18 ?_
      show OFin p e below _ (T18.setTop (mkF m 29 #[.val (.ref o0), .val (.int ii)] [(.ref b18), (.int ii), (.ref b4)]))
      have S21 : ∀ t, Steps p.tables e below (T18.setTop (mkF m 30 #[.val (.ref o0), .val (.int ii)] [(.ref b18), (.ref b18), (.int ii), (.ref b4)])) t → Steps p.tables e below (T18.setTop (mkF m 29 #[.val (.ref o0), .val (.int ii)] [(.ref b18), (.int ii), (.ref b4)])) t := by
        intro t k
        show Steps p.tables e below (T18.setTop (mkF m 29 #[.val (.ref o0), .val (.int ii)] [(.ref b18), (.int ii), (.ref b4)])) t
        refine XS.dup X18.here hx rfl (hb hby d1_29) rfl rfl ?_
        exact k
      refine OFin.go S21 ?_
      obtain ⟨_, T22, Lc22, X22, hQ22, st22⟩ := specRefQ X18 hx hZ (y := (⟨"com/example/clockwrap/clockwrap/store/LongTable$Part", "<init>", "()V"⟩ : MethodName)) rfl hown (hw _ (List.mem_of_getElem? (i := 19) rfl)) (hw _ (List.mem_of_getElem? (i := 20) rfl)) (hw _ (List.mem_of_getElem? (i := 18) rfl)) (hw _ (List.mem_of_getElem? (i := 21) rfl)) (by decide) (a := b18) (argsL := []) (rest := [(.ref b18), (.int ii), (.ref b4)]) (rm3 l Z a0 hw [] b18 h18 n0 Z18 ge18 A18 F18_keys F18_shift F18_values F18_taken) (W := 3) (by decide) (by decide) e18 (g := (mkF m 30 #[.val (.ref o0), .val (.int ii)] [(.ref b18), (.ref b18), (.int ii), (.ref b4)])) rfl (by rw [hml]; rfl) (lenOf pd_4 rfl) rfl (by show 2 * 0 + _ ≤ _; exact Nat.le_of_eq rfl) (hb hby d1_30) (by show ce_ + 1 + 1 ≤ 129; omega) (by show sl_ + 4 + 16 ≤ 1344; omega)
      obtain ⟨ka22, rfl, N22q, K22q, hka22, F22_keys, F22_shift, F22_values, F22_taken, Va22⟩ := hQ22
      have F23 := Ek.ext E18
      have q24 : o0 ≠ ka22 := Nat.ne_of_lt (Nat.lt_of_lt_of_le F23.lt hka22)
      have F25 := Vk.ext E18
      have q26 : b4 ≠ ka22 := Nat.ne_of_lt (Nat.lt_of_lt_of_le F25.lt hka22)
      have q27 : b18 ≠ ka22 := Nat.ne_of_lt (Nat.lt_of_lt_of_le A18.lt hka22)
      have ge22 : n0 ≤ ka22 := Nat.le_trans Z18 hka22
      have sz22 : h0.size ≤ ka22 := Nat.le_trans K18.1 hka22
      have Z22 : n0 ≤ T22.heap.size := Nat.le_trans Z18 K22q.1
      have K22 := Keep.trans K18 K22q (allS (Or.inr sz18) all0)
      have N22 := Fr.app Nk N22q
      refine OFin.go st22 ?_
      show OFin p e below _ (T22.setTop (mkF m 33 #[.val (.ref o0), .val (.int ii)] [(.ref b18), (.int ii), (.ref b4)]))
      have F28 := F25.keep K22q (ninS q20 nin0)
      have F29 := Ok.ext E18
      have F30 := F29.keep K22q
      have F31 := A18.keep K22q
      obtain ⟨T32, h32, X32, e32, W32, st32⟩ := wrR X22 hx hZ rfl F28 F30 (Ins.self F31) (i := nn) (own_ixn hn2).1 (own_ixn hn2).2 (by omega) (g := (mkF m 33 #[.val (.ref o0), .val (.int ii)] [(.ref b18), (.int ii), (.ref b4)])) rfl rfl (hb hby d1_33)
      have V32 := F28.set W32
      have N32 := Fr.snoc X32 N22 ge4
      have Z32 : n0 ≤ h32.size := Nat.le_trans Z22 (wr_le W32)
      have K32 := Keep.wr K22 W32 (Or.inr sz4)
      refine OFin.go st32 ?_
      show OFin p e below _ (T32.setTop (mkF m 34 #[.val (.ref o0), .val (.int ii)] []))
      have S33 : ∀ t, Steps p.tables e below (T32.setTop (mkF m 15 #[.val (.ref o0), .val (.int (ii + (1 : Int32)))] [])) t → Steps p.tables e below (T32.setTop (mkF m 34 #[.val (.ref o0), .val (.int ii)] [])) t := by
        intro t k
        show Steps p.tables e below (T32.setTop (mkF m 34 #[.val (.ref o0), .val (.int ii)] [])) t
        refine XS.iinc X32.here hx rfl (hb hby d1_34) rfl (l' := #[.val (.ref o0), .val (.int (ii + (1 : Int32)))]) rfl ?_
        show Steps p.tables e below (T32.setTop (mkF m 37 #[.val (.ref o0), .val (.int (ii + (1 : Int32)))] [])) t
        refine XS.goto X32.here hx rfl (pc0 := 37) (pc' := 15) rfl (hb hby d1_37) (by decide) (by decide) ?_
        exact k
      refine OFin.go S33 ?_
      have F34 := F23.keep K22q
      have F35 := F34.wr W32
      have F36 := Fpartsk.ext E18
      have F37 := F36.keep K22q (ninS q19 nin0)
      have F38 := F37.other W32 (Or.inl q5)
      have F39 := Fsizek.ext E18
      have F40 := F39.keep K22q (ninS q19 nin0)
      have F41 := F40.other W32 (Or.inl q5)
      have F42 := FhasZerok.ext E18
      have F43 := F42.keep K22q (ninS q19 nin0)
      have F44 := F43.other W32 (Or.inl q5)
      have F45 := FzeroValuek.ext E18
      have F46 := F45.keep K22q (ninS q19 nin0)
      have F47 := F46.other W32 (Or.inl q5)
      have F48 := F30.wr W32
      have F49 := F31.wr W32
      have F50 := F22_keys.other W32 (Or.inl (Ne.symm q20))
      have F51 := F22_values.other W32 (Or.inl (Ne.symm q20))
      have F52 := F22_shift.other W32 (Or.inl (Ne.symm q20))
      have F53 := F22_taken.other W32 (Or.inl (Ne.symm q20))
      have F54 := Va22.other W32 (Ne.symm q26)
      have F55 := FAM.keep Mk (Keep.ext (Keep.refl _ []) E18) all0
      have F56 := FAM.keep F55 K22q (allS (Or.inr (Or.inr (Nat.le_of_eq g18.symm))) all0)
      have F57 := FAM.keep F56 (Keep.of_wr W32) (allS (Or.inr (Or.inl rfl)) all0)
      have F58 := Nat.le_trans (Nat.le_refl Hk.size) E18.1
      have F59 := Nat.le_trans F58 K22q.1
      have F60 := Nat.le_trans F59 (wr_le W32)
      exact ih T32 _ _ _ X32 _ e32 N32 (by first | exact ⟨Nat.le_of_ble_eq_true rfl, Nat.le_of_ble_eq_true rfl⟩ | exact (show ce_ + 1 + 1 + 2 * k ≤ 129 ∧ sl_ + 4 + 16 + 20 * k ≤ 1344 by omega)) Z32 K32 (ii + (1 : Int32)) (nn + 1) (upd pa nn b18) (upd FF nn [b18, ka22]) F35 F38 F41 F44 F47 (V32.congr (fun i _ => own_arst nn pa b18 i)) F48 (FAM.snoc F57 (⟨ka22, rfl, q27, ⟨F49, F50, F51, F52, F53, F54⟩, fun _ => rfl⟩) own_pi0 (allS ⟨Nat.le_of_eq g18.symm, ge18, (Ne.symm q19), (Ne.symm q20)⟩ (allS ⟨Nat.le_trans E18.1 hka22, ge22, (Ne.symm q24), (Ne.symm q26)⟩ all0)) F60) ⟨by omega, own_inc1 hn2 (by omega)⟩
  have F61 := F7.wr W8
  have F62 := F_size.ext E4
  have F63 := F62.other W8 (Or.inr (slot_ne (Or.inl (hw _ (List.mem_of_getElem? (i := 67) rfl))) (Or.inr (hw _ (List.mem_of_getElem? (i := 16) rfl))) (by decide) (t := .int) (t' := (.array (.object "com/example/clockwrap/clockwrap/store/LongTable$Part"))) (by decide) (by decide)))
  have F64 := F_hasZero.ext E4
  have F65 := F64.other W8 (Or.inr (slot_ne (Or.inl (hw _ (List.mem_of_getElem? (i := 97) rfl))) (Or.inr (hw _ (List.mem_of_getElem? (i := 16) rfl))) (by decide) (t := .boolean) (t' := (.array (.object "com/example/clockwrap/clockwrap/store/LongTable$Part"))) (by decide) (by decide)))
  have F66 := F_zeroValue.ext E4
  have F67 := F66.other W8 (Or.inr (slot_ne (Or.inl (hw _ (List.mem_of_getElem? (i := 99) rfl))) (Or.inr (hw _ (List.mem_of_getElem? (i := 16) rfl))) (by decide) (t := .long) (t' := (.array (.object "com/example/clockwrap/clockwrap/store/LongTable$Part"))) (by decide) (by decide)))
  have F68 := V4.other W8 (Ne.symm q5)
  have F69 := O4.wr W8
  exact LOOP10 64 T8 _ _ _ X8 _ e8 N8 (by first | exact ⟨Nat.le_of_ble_eq_true rfl, Nat.le_of_ble_eq_true rfl⟩ | exact (show ce_ + 1 + 1 + 2 * k ≤ 129 ∧ sl_ + 4 + 16 + 20 * k ≤ 1344 by omega)) Z8 K8 (0 : Int32) 0 (fun _ => 0) (fun _ => []) F61 Fw8 F63 F65 F67 (F68.congr (fun i _ => (if_neg (Nat.not_lt_zero i)).symm)) F69 ⟨fun i hi => absurd hi (Nat.not_lt_zero i), fun i j hi => absurd hi (Nat.not_lt_zero i)⟩ ⟨rfl, rfl⟩
theorem ef_rm6 (m : MethodId) (o0 : Addr) (key : Int64) : entryFrame m #[(.ref o0), (.long key)] 3 = mkF m 0 #[.val (.ref o0), .val (.long key), .second] [] := by first | (simp [entryFrame, mkF, argsToLocals, Value.category]; done) | rfl
def Q_rm6 (Z : State) (o0 : Addr) (key : Int64) (pr : Addr) (pa : Nat → Addr) (h0 : Heap) (n0 : Nat) (v : Option Value) (h : Heap) (L : List Loc) : Prop := v = some (.ref (pa (ix key))) ∧ Fr n0 L ∧ h = h0
theorem d6_0 : decode prog_32_method_8_code 0 = .ok (.aload_n 0, 1) := by decide +kernel
theorem d6_1 : decode prog_32_method_8_code 1 = .ok (.getfield 11, 3) := by decide +kernel
theorem d6_4 : decode prog_32_method_8_code 4 = .ok (.lload_n 1, 1) := by decide +kernel
theorem d6_5 : decode prog_32_method_8_code 5 = .ok (.ldc2_w 50, 3) := by decide +kernel
theorem d6_8 : decode prog_32_method_8_code 8 = .ok (.lmul, 1) := by decide +kernel
theorem d6_9 : decode prog_32_method_8_code 9 = .ok (.bipush 58, 2) := by decide +kernel
theorem d6_11 : decode prog_32_method_8_code 11 = .ok (.lushr, 1) := by decide +kernel
theorem d6_12 : decode prog_32_method_8_code 12 = .ok (.l2i, 1) := by decide +kernel
theorem d6_13 : decode prog_32_method_8_code 13 = .ok (.aaload, 1) := by decide +kernel
theorem d6_14 : decode prog_32_method_8_code 14 = .ok (.areturn, 1) := by decide +kernel
set_option maxRecDepth 65536 in
set_option maxHeartbeats 40000000 in
theorem rm6 (l : Launch) (Z : State) (a0 : Array Value) (hw : ∀ d ∈ tables_1, d.before a0 Z = true) (ws : List Jvm.Cond) (o0 : Addr) (key : Int64) (pr : Addr) (pa : Nat → Addr) (h0 : Heap) (n0 : Nat) (Z0 : n0 ≤ h0.size) (Fp : Fld Z h0 o0 "com/example/clockwrap/clockwrap/store/LongTable" "parts" "[Lcom/example/clockwrap/clockwrap/store/LongTable$Part;" (.ref pr)) (Vp : Ara Z h0 pr (.object "com/example/clockwrap/clockwrap/store/LongTable$Part") 64 (fun i => .ref (pa i))) :
    MetFree l (⟨"com/example/clockwrap/clockwrap/store/LongTable", "part", "(J)Lcom/example/clockwrap/clockwrap/store/LongTable$Part;"⟩ : MethodName) (head1 (Jvm.Cond.code (⟨"com/example/clockwrap/clockwrap/store/LongTable", "part", "(J)Lcom/example/clockwrap/clockwrap/store/LongTable$Part;"⟩ : MethodName) prog_32_method_8_code 3 (some (.object "com/example/clockwrap/clockwrap/store/LongTable$Part")) :: ws) ({ frames := 0, cells := 0, slots := 0, locals := 0 } : Room)) (fun a U => a = #[(.ref o0), (.long key)] ∧ Z.Warmed39 U.vm ∧ U.heap = h0) (fun _ _ _ _ _ => True) (fun _ U o U' => ∃ v L, o = .returned v ∧ (Q_rm6 Z o0 key pr pa h0 n0) v U'.heap L ∧ FrameEnd U o U' L ({ frames := 0, cells := 0, slots := 0, locals := 0 } : Room).cells ({ frames := 0, cells := 0, slots := 0, locals := 0 } : Room).slots) := by
  refine MetFree.of_bodySF (plainFor_of_name pn_2) hisR ?_
  intro p e s m args below meth c s₁ Bd hml0 hP hK
  obtain ⟨rfl, hZ, hh⟩ := hP
  have hx := Bd.exec
  have hby := Bd.bytes
  have hml : c.maxLocals = 3 := hml0
  have hown : s.vm.findClass "com/example/clockwrap/clockwrap/store/LongTable" = some m.cls := findClass_of_methodNamed Bd.named
  have hnm := (name_of_methodNamed Bd.named Bd.method).1
  have X0 : Stand p l e ({ frames := 0, cells := 0, slots := 0, locals := 0 } : Room) s m #[(.ref o0), (.long key)] below meth c s₁ [] 0 0 := Stand.of_body Bd
  have e0 : s₁.heap = h0 := by rw [← hh, Bd.state]; rfl
  have N0 := Fr.nil n0
  show OFin p e below (ORet (Q_rm6 Z o0 key pr pa h0 n0) s ({ frames := 0, cells := 0, slots := 0, locals := 0 } : Room).cells ({ frames := 0, cells := 0, slots := 0, locals := 0 } : Room).slots) (s₁.setTop (entryFrame m #[(.ref o0), (.long key)] 3))
  refine OFin.go (fun t k => castTop (ef_rm6 m o0 key) k) ?_
  show OFin p e below (ORet (Q_rm6 Z o0 key pr pa h0 n0) s ({ frames := 0, cells := 0, slots := 0, locals := 0 } : Room).cells ({ frames := 0, cells := 0, slots := 0, locals := 0 } : Room).slots) (s₁.setTop (mkF m 0 #[.val (.ref o0), .val (.long key), .second] []))
  have S1 : ∀ t, Steps p.tables e below (s₁.setTop (mkF m 1 #[.val (.ref o0), .val (.long key), .second] [(.ref o0)])) t → Steps p.tables e below (s₁.setTop (mkF m 0 #[.val (.ref o0), .val (.long key), .second] [])) t := by
    intro t k
    show Steps p.tables e below (s₁.setTop (mkF m 0 #[.val (.ref o0), .val (.long key), .second] [])) t
    refine XS.aloadN X0.here hx rfl (hb hby d6_0) rfl rfl ?_
    exact k
  refine OFin.go S1 ?_
  obtain ⟨T2, X2, e2, st2⟩ := getF X0 hx hZ hown (host := "") (Or.inl (hw _ (List.mem_of_getElem? (i := 15) rfl))) Via.refl e0 Fp (g := (mkF m 1 #[.val (.ref o0), .val (.long key), .second] [(.ref o0)])) rfl rfl (hb hby d6_1)
  refine OFin.go st2 ?_
  show OFin p e below _ (T2.setTop (mkF m 4 #[.val (.ref o0), .val (.long key), .second] [(.ref pr)]))
  have S3 : ∀ t, Steps p.tables e below (T2.setTop (mkF m 14 #[.val (.ref o0), .val (.long key), .second] [(.ref (pa (ix key)))])) t → Steps p.tables e below (T2.setTop (mkF m 4 #[.val (.ref o0), .val (.long key), .second] [(.ref pr)])) t := by
    intro t k
    show Steps p.tables e below (T2.setTop (mkF m 4 #[.val (.ref o0), .val (.long key), .second] [(.ref pr)])) t
    refine XS.lloadN X2.here hx rfl (hb hby d6_4) rfl ?_
    show Steps p.tables e below (T2.setTop (mkF m 5 #[.val (.ref o0), .val (.long key), .second] [(.long key), (.ref pr)])) t
    refine X2.ldc2Long hx hown (mvT hZ (hw _ (List.mem_of_getElem? (i := 43) rfl))) (g := (mkF m 5 #[.val (.ref o0), .val (.long key), .second] [(.long key), (.ref pr)])) rfl (hb hby d6_5) _ ?_
    show Steps p.tables e below (T2.setTop (mkF m 8 #[.val (.ref o0), .val (.long key), .second] [(.long (-7046029254386353131 : Int64)), (.long key), (.ref pr)])) t
    refine XS.lmul X2.here hx rfl (hb hby d6_8) rfl ?_
    show Steps p.tables e below (T2.setTop (mkF m 9 #[.val (.ref o0), .val (.long key), .second] [(.long (key * (-7046029254386353131 : Int64))), (.ref pr)])) t
    refine XS.bipush X2.here hx rfl (hb hby d6_9) ?_
    show Steps p.tables e below (T2.setTop (mkF m 11 #[.val (.ref o0), .val (.long key), .second] [(.int (58 : Int32)), (.long (key * (-7046029254386353131 : Int64))), (.ref pr)])) t
    refine XS.lushr X2.here hx rfl (hb hby d6_11) rfl ?_
    show Steps p.tables e below (T2.setTop (mkF m 12 #[.val (.ref o0), .val (.long key), .second] [(.long (((key * (-7046029254386353131 : Int64)).toUInt64 >>> ((58 : Int32) &&& 0x3f).toInt64.toUInt64).toInt64)), (.ref pr)])) t
    refine XS.l2i X2.here hx rfl (hb hby d6_12) rfl ?_
    show Steps p.tables e below (T2.setTop (mkF m 13 #[.val (.ref o0), .val (.long key), .second] [(.int ((((key * (-7046029254386353131 : Int64)).toUInt64 >>> ((58 : Int32) &&& 0x3f).toInt64.toUInt64).toInt64).toInt32)), (.ref pr)])) t
    refine rdR X2 hx hZ e2 Vp rfl (i := (ix key)) (ix_spec key).1 rfl (ix_lt key) (x := (.ref (pa (ix key)))) rfl (g := (mkF m 13 #[.val (.ref o0), .val (.long key), .second] [(.int ((((key * (-7046029254386353131 : Int64)).toUInt64 >>> ((58 : Int32) &&& 0x3f).toInt64.toUInt64).toInt64).toInt32)), (.ref pr)])) rfl rfl (hb hby d6_13) ?_
    exact k
  refine OFin.go S3 ?_
  exact finA X2 hx Bd.notSynchronized rfl Bd.returns rfl (hb hby d6_14) (by decide) (by decide) (⟨rfl, N0, e2⟩)
theorem ef_rm5 (m : MethodId) (o0 : Addr) (key : Int64) : entryFrame m #[(.ref o0), (.long key)] 4 = mkF m 0 #[.val (.ref o0), .val (.long key), .second, .unset] [] := by first | (simp [entryFrame, mkF, argsToLocals, Value.category]; done) | rfl
def Q_rm5 (Z : State) (o0 : Addr) (key : Int64) (Wl : List Addr) (mm : Nat) (M : Int64 → Int64 → Prop) (h0 : Heap) (n0 : Nat) (v : Option Value) (h : Heap) (L : List Loc) : Prop := ∃ (b : Int32) (Wl' : List Addr), v = some (.int b) ∧ Fr n0 L ∧ Keep h0 h Wl ∧ TBL Z h n0 o0 Wl' (mm + 1) (addM key M) ∧ ∀ x ∈ Wl', x ∈ Wl ∨ h0.size ≤ x
theorem d5_0 : decode prog_32_method_4_code 0 = .ok (.lload_n 1, 1) := by decide +kernel
theorem d5_1 : decode prog_32_method_4_code 1 = .ok (.lconst 0, 1) := by decide +kernel
theorem d5_2 : decode prog_32_method_4_code 2 = .ok (.lcmp, 1) := by decide +kernel
theorem d5_3 : decode prog_32_method_4_code 3 = .ok (.ifCond .ne 24, 3) := by decide +kernel
theorem d5_6 : decode prog_32_method_4_code 6 = .ok (.aload_n 0, 1) := by decide +kernel
theorem d5_7 : decode prog_32_method_4_code 7 = .ok (.getfield 20, 3) := by decide +kernel
theorem d5_10 : decode prog_32_method_4_code 10 = .ok (.ifCond .ne 7, 3) := by decide +kernel
theorem d5_13 : decode prog_32_method_4_code 13 = .ok (.iconst 1, 1) := by decide +kernel
theorem d5_14 : decode prog_32_method_4_code 14 = .ok (.goto 4, 3) := by decide +kernel
theorem d5_17 : decode prog_32_method_4_code 17 = .ok (.iconst 0, 1) := by decide +kernel
theorem d5_18 : decode prog_32_method_4_code 18 = .ok (.istore_n 3, 1) := by decide +kernel
theorem d5_19 : decode prog_32_method_4_code 19 = .ok (.aload_n 0, 1) := by decide +kernel
theorem d5_20 : decode prog_32_method_4_code 20 = .ok (.iconst 1, 1) := by decide +kernel
theorem d5_21 : decode prog_32_method_4_code 21 = .ok (.putfield 20, 3) := by decide +kernel
theorem d5_24 : decode prog_32_method_4_code 24 = .ok (.goto 13, 3) := by decide +kernel
theorem d5_37 : decode prog_32_method_4_code 37 = .ok (.iload_n 3, 1) := by decide +kernel
theorem d5_38 : decode prog_32_method_4_code 38 = .ok (.ifCond .eq 13, 3) := by decide +kernel
theorem d5_41 : decode prog_32_method_4_code 41 = .ok (.aload_n 0, 1) := by decide +kernel
theorem d5_42 : decode prog_32_method_4_code 42 = .ok (.dup, 1) := by decide +kernel
theorem d5_43 : decode prog_32_method_4_code 43 = .ok (.getfield 16, 3) := by decide +kernel
theorem d5_46 : decode prog_32_method_4_code 46 = .ok (.iconst 1, 1) := by decide +kernel
theorem d5_47 : decode prog_32_method_4_code 47 = .ok (.iadd, 1) := by decide +kernel
theorem d5_48 : decode prog_32_method_4_code 48 = .ok (.putfield 16, 3) := by decide +kernel
theorem d5_51 : decode prog_32_method_4_code 51 = .ok (.iload_n 3, 1) := by decide +kernel
theorem d5_52 : decode prog_32_method_4_code 52 = .ok (.ireturn, 1) := by decide +kernel
theorem d5_27 : decode prog_32_method_4_code 27 = .ok (.aload_n 0, 1) := by decide +kernel
theorem d5_28 : decode prog_32_method_4_code 28 = .ok (.lload_n 1, 1) := by decide +kernel
theorem pd_5 : parseMethodDescriptor "(J)Lcom/example/clockwrap/clockwrap/store/LongTable$Part;" = some ⟨[.long], some (.object "com/example/clockwrap/clockwrap/store/LongTable$Part")⟩ := by decide +kernel
theorem d5_29 : decode prog_32_method_4_code 29 = .ok (.invokevirtual 24, 3) := by decide +kernel
theorem d5_32 : decode prog_32_method_4_code 32 = .ok (.lload_n 1, 1) := by decide +kernel
theorem pd_6 : parseMethodDescriptor "(J)Z" = some ⟨[.long], some .boolean⟩ := by decide +kernel
theorem d5_33 : decode prog_32_method_4_code 33 = .ok (.invokevirtual 32, 3) := by decide +kernel
theorem d5_36 : decode prog_32_method_4_code 36 = .ok (.istore_n 3, 1) := by decide +kernel
set_option maxRecDepth 65536 in
set_option maxHeartbeats 40000000 in
theorem rm5 (l : Launch) (Z : State) (a0 : Array Value) (hw : ∀ d ∈ tables_1, d.before a0 Z = true) (ws : List Jvm.Cond) (o0 : Addr) (key : Int64) (Wl : List Addr) (mm : Nat) (M : Int64 → Int64 → Prop) (h0 : Heap) (n0 : Nat) (Z0 : n0 ≤ h0.size) (hT : TBL Z h0 n0 o0 Wl mm M) (hmm : mm < 10) :
    MetFree l (⟨"com/example/clockwrap/clockwrap/store/LongTable", "add", "(J)Z"⟩ : MethodName) (head1 (Jvm.Cond.code (⟨"com/example/clockwrap/clockwrap/store/LongTable", "add", "(J)Z"⟩ : MethodName) prog_32_method_4_code 4 (some .boolean) :: ws) ({ frames := 3, cells := 0, slots := 0, locals := 60 } : Room)) (fun a U => a = #[(.ref o0), (.long key)] ∧ Z.Warmed39 U.vm ∧ U.heap = h0) (fun _ _ _ _ _ => True) (fun _ U o U' => ∃ v L, o = .returned v ∧ (Q_rm5 Z o0 key Wl mm M h0 n0) v U'.heap L ∧ FrameEnd U o U' L ({ frames := 3, cells := 0, slots := 0, locals := 60 } : Room).cells ({ frames := 3, cells := 0, slots := 0, locals := 60 } : Room).slots) := by
  refine MetFree.of_bodySF (plainFor_of_name pn_2) hisR ?_
  intro p e s m args below meth c s₁ Bd hml0 hP hK
  obtain ⟨rfl, hZ, hh⟩ := hP
  have hx := Bd.exec
  have hby := Bd.bytes
  have hml : c.maxLocals = 4 := hml0
  have hown : s.vm.findClass "com/example/clockwrap/clockwrap/store/LongTable" = some m.cls := findClass_of_methodNamed Bd.named
  have hnm := (name_of_methodNamed Bd.named Bd.method).1
  have X0 : Stand p l e ({ frames := 3, cells := 0, slots := 0, locals := 60 } : Room) s m #[(.ref o0), (.long key)] below meth c s₁ [] 0 0 := Stand.of_body Bd
  have e0 : s₁.heap = h0 := by rw [← hh, Bd.state]; rfl
  have N0 := Fr.nil n0
  show OFin p e below (ORet (Q_rm5 Z o0 key Wl mm M h0 n0) s ({ frames := 3, cells := 0, slots := 0, locals := 60 } : Room).cells ({ frames := 3, cells := 0, slots := 0, locals := 60 } : Room).slots) (s₁.setTop (entryFrame m #[(.ref o0), (.long key)] 4))
  refine OFin.go (fun t k => castTop (ef_rm5 m o0 key) k) ?_
  obtain ⟨pr, pa, FF, KK, VV, TT, hzv, szv, zvv, zz, E0, Fp, Fs, Fh, Fz, Vp, hFM, hzl, nop, geo, ⟨wtb, wpr, wF, wW⟩, hz01, hz0, hM, hM0⟩ := hT
  have K0 := Keep.refl h0 Wl
  show OFin p e below (ORet (Q_rm5 Z o0 key Wl mm M h0 n0) s ({ frames := 3, cells := 0, slots := 0, locals := 60 } : Room).cells ({ frames := 3, cells := 0, slots := 0, locals := 60 } : Room).slots) (s₁.setTop (mkF m 0 #[.val (.ref o0), .val (.long key), .second, .unset] []))
  have S1 : ∀ t, Steps p.tables e below (s₁.setTop (mkF m 3 #[.val (.ref o0), .val (.long key), .second, .unset] [(.int (lcmpW key (0 : Int64)))])) t → Steps p.tables e below (s₁.setTop (mkF m 0 #[.val (.ref o0), .val (.long key), .second, .unset] [])) t := by
    intro t k
    show Steps p.tables e below (s₁.setTop (mkF m 0 #[.val (.ref o0), .val (.long key), .second, .unset] [])) t
    refine XS.lloadN X0.here hx rfl (hb hby d5_0) rfl ?_
    show Steps p.tables e below (s₁.setTop (mkF m 1 #[.val (.ref o0), .val (.long key), .second, .unset] [(.long key)])) t
    refine XS.lconst X0.here hx rfl (hb hby d5_1) ?_
    show Steps p.tables e below (s₁.setTop (mkF m 2 #[.val (.ref o0), .val (.long key), .second, .unset] [(.long (0 : Int64)), (.long key)])) t
    refine XS.lcmp X0.here hx rfl (hb hby d5_2) rfl ?_
    exact k
  refine OFin.go S1 ?_
  by_cases h2 : (key = (0 : Int64))
  · -- pc 3: (key = (0 : Int64))
    have S3 : ∀ t, Steps p.tables e below (s₁.setTop (mkF m 6 #[.val (.ref o0), .val (.long key), .second, .unset] [])) t → Steps p.tables e below (s₁.setTop (mkF m 3 #[.val (.ref o0), .val (.long key), .second, .unset] [(.int (lcmpW key (0 : Int64)))])) t := by
      intro t k
      show Steps p.tables e below (s₁.setTop (mkF m 3 #[.val (.ref o0), .val (.long key), .second, .unset] [(.int (lcmpW key (0 : Int64)))])) t
      refine XS.ifNo X0.here hx rfl (hb hby d5_3) rfl (lc_ne_f h2) ?_
      exact k
    refine OFin.go S3 ?_
    have S4 : ∀ t, Steps p.tables e below (s₁.setTop (mkF m 7 #[.val (.ref o0), .val (.long key), .second, .unset] [(.ref o0)])) t → Steps p.tables e below (s₁.setTop (mkF m 6 #[.val (.ref o0), .val (.long key), .second, .unset] [])) t := by
      intro t k
      show Steps p.tables e below (s₁.setTop (mkF m 6 #[.val (.ref o0), .val (.long key), .second, .unset] [])) t
      refine XS.aloadN X0.here hx rfl (hb hby d5_6) rfl rfl ?_
      exact k
    refine OFin.go S4 ?_
    obtain ⟨T5, X5, e5, st5⟩ := getF X0 hx hZ hown (host := "") (Or.inl (hw _ (List.mem_of_getElem? (i := 96) rfl))) Via.refl e0 Fh (g := (mkF m 7 #[.val (.ref o0), .val (.long key), .second, .unset] [(.ref o0)])) rfl rfl (hb hby d5_7)
    refine OFin.go st5 ?_
    show OFin p e below _ (T5.setTop (mkF m 10 #[.val (.ref o0), .val (.long key), .second, .unset] [(.int hzv)]))
    have J6 : ∀ t, Steps p.tables e below (T5.setTop (mkF m 18 #[.val (.ref o0), .val (.long key), .second, .unset] [(.int (bi (hzv = (0 : Int32))))])) t → Steps p.tables e below (T5.setTop (mkF m 10 #[.val (.ref o0), .val (.long key), .second, .unset] [(.int hzv)])) t := by
      intro t k
      show Steps p.tables e below (T5.setTop (mkF m 10 #[.val (.ref o0), .val (.long key), .second, .unset] [(.int hzv)])) t
      by_cases h7 : (hzv = (0 : Int32))
      · refine XS.ifNo X5.here hx rfl (hb hby d5_10) rfl ((if0 _ _).trans (teq h7).2) ?_
        show Steps p.tables e below (T5.setTop (mkF m 13 #[.val (.ref o0), .val (.long key), .second, .unset] [])) t
        refine XS.iconst X5.here hx rfl (hb hby d5_13) ?_
        show Steps p.tables e below (T5.setTop (mkF m 14 #[.val (.ref o0), .val (.long key), .second, .unset] [(.int (1 : Int32))])) t
        refine XS.goto X5.here hx rfl (pc0 := 14) (pc' := 18) rfl (hb hby d5_14) (by decide) (by decide) ?_
        show Steps p.tables e below (T5.setTop (mkF m 18 #[.val (.ref o0), .val (.long key), .second, .unset] [(.int (1 : Int32))])) t
        exact (castTop (congrArg (fun zq_ => (mkF m 18 #[.val (.ref o0), .val (.long key), .second, .unset] [(.int zq_)])) (bi_t h7).symm) k)
      · refine XS.ifYes X5.here hx rfl (pc0 := 10) (pc' := 17) rfl (hb hby d5_10) rfl ((if0 _ _).trans (feq h7).2) (by decide) (by decide) ?_
        show Steps p.tables e below (T5.setTop (mkF m 17 #[.val (.ref o0), .val (.long key), .second, .unset] [])) t
        refine XS.iconst X5.here hx rfl (hb hby d5_17) ?_
        show Steps p.tables e below (T5.setTop (mkF m 18 #[.val (.ref o0), .val (.long key), .second, .unset] [(.int (0 : Int32))])) t
        exact (castTop (congrArg (fun zq_ => (mkF m 18 #[.val (.ref o0), .val (.long key), .second, .unset] [(.int zq_)])) (bi_f h7).symm) k)
    refine OFin.go J6 ?_
    have S8 : ∀ t, Steps p.tables e below (T5.setTop (mkF m 21 #[.val (.ref o0), .val (.long key), .second, .val (.int (bi (hzv = (0 : Int32))))] [(.int (1 : Int32)), (.ref o0)])) t → Steps p.tables e below (T5.setTop (mkF m 18 #[.val (.ref o0), .val (.long key), .second, .unset] [(.int (bi (hzv = (0 : Int32))))])) t := by
      intro t k
      show Steps p.tables e below (T5.setTop (mkF m 18 #[.val (.ref o0), .val (.long key), .second, .unset] [(.int (bi (hzv = (0 : Int32))))])) t
      refine XS.istoreN X5.here hx rfl (hb hby d5_18) rfl (l' := #[.val (.ref o0), .val (.long key), .second, .val (.int (bi (hzv = (0 : Int32))))]) rfl ?_
      show Steps p.tables e below (T5.setTop (mkF m 19 #[.val (.ref o0), .val (.long key), .second, .val (.int (bi (hzv = (0 : Int32))))] [])) t
      refine XS.aloadN X5.here hx rfl (hb hby d5_19) rfl rfl ?_
      show Steps p.tables e below (T5.setTop (mkF m 20 #[.val (.ref o0), .val (.long key), .second, .val (.int (bi (hzv = (0 : Int32))))] [(.ref o0)])) t
      refine XS.iconst X5.here hx rfl (hb hby d5_20) ?_
      exact k
    refine OFin.go S8 ?_
    obtain ⟨T9, h9, X9, e9, W9, st9⟩ := putF X5 hx hZ hown (host := "") (Or.inl (hw _ (List.mem_of_getElem? (i := 96) rfl))) Via.refl e5 Fh E0 (Or.inl (hw _ (List.mem_of_getElem? (i := 97) rfl))) (hw _ (List.mem_of_getElem? (i := 5) rfl)) (ty := .boolean) (by decide) rfl rfl (g := (mkF m 21 #[.val (.ref o0), .val (.long key), .second, .val (.int (bi (hzv = (0 : Int32))))] [(.int (1 : Int32)), (.ref o0)])) rfl rfl (hb hby d5_21)
    have Fw9 := Fh.same W9
    have N9 := Fr.snoc X9 N0 geo
    have Z9 : n0 ≤ h9.size := Nat.le_trans Z0 (wr_le W9)
    have K9 := Keep.wr K0 W9 (Or.inl wtb)
    refine OFin.go st9 ?_
    show OFin p e below _ (T9.setTop (mkF m 24 #[.val (.ref o0), .val (.long key), .second, .val (.int (bi (hzv = (0 : Int32))))] []))
    have S10 : ∀ t, Steps p.tables e below (T9.setTop (mkF m 38 #[.val (.ref o0), .val (.long key), .second, .val (.int (bi (hzv = (0 : Int32))))] [(.int (bi (hzv = (0 : Int32))))])) t → Steps p.tables e below (T9.setTop (mkF m 24 #[.val (.ref o0), .val (.long key), .second, .val (.int (bi (hzv = (0 : Int32))))] [])) t := by
      intro t k
      show Steps p.tables e below (T9.setTop (mkF m 24 #[.val (.ref o0), .val (.long key), .second, .val (.int (bi (hzv = (0 : Int32))))] [])) t
      refine XS.goto X9.here hx rfl (pc0 := 24) (pc' := 37) rfl (hb hby d5_24) (by decide) (by decide) ?_
      show Steps p.tables e below (T9.setTop (mkF m 37 #[.val (.ref o0), .val (.long key), .second, .val (.int (bi (hzv = (0 : Int32))))] [])) t
      refine XS.iloadN X9.here hx rfl (hb hby d5_37) rfl ?_
      exact k
    refine OFin.go S10 ?_
    by_cases h11 : (hzv = (0 : Int32))
    · -- pc 38: (hzv = (0 : Int32))
      have S12 : ∀ t, Steps p.tables e below (T9.setTop (mkF m 41 #[.val (.ref o0), .val (.long key), .second, .val (.int (bi (hzv = (0 : Int32))))] [])) t → Steps p.tables e below (T9.setTop (mkF m 38 #[.val (.ref o0), .val (.long key), .second, .val (.int (bi (hzv = (0 : Int32))))] [(.int (bi (hzv = (0 : Int32))))])) t := by
        intro t k
        show Steps p.tables e below (T9.setTop (mkF m 38 #[.val (.ref o0), .val (.long key), .second, .val (.int (bi (hzv = (0 : Int32))))] [(.int (bi (hzv = (0 : Int32))))])) t
        refine XS.ifNo X9.here hx rfl (hb hby d5_38) rfl (bi_eq_f h11) ?_
        exact k
      refine OFin.go S12 ?_
      have S13 : ∀ t, Steps p.tables e below (T9.setTop (mkF m 43 #[.val (.ref o0), .val (.long key), .second, .val (.int (bi (hzv = (0 : Int32))))] [(.ref o0), (.ref o0)])) t → Steps p.tables e below (T9.setTop (mkF m 41 #[.val (.ref o0), .val (.long key), .second, .val (.int (bi (hzv = (0 : Int32))))] [])) t := by
        intro t k
        show Steps p.tables e below (T9.setTop (mkF m 41 #[.val (.ref o0), .val (.long key), .second, .val (.int (bi (hzv = (0 : Int32))))] [])) t
        refine XS.aloadN X9.here hx rfl (hb hby d5_41) rfl rfl ?_
        show Steps p.tables e below (T9.setTop (mkF m 42 #[.val (.ref o0), .val (.long key), .second, .val (.int (bi (hzv = (0 : Int32))))] [(.ref o0)])) t
        refine XS.dup X9.here hx rfl (hb hby d5_42) rfl rfl ?_
        exact k
      refine OFin.go S13 ?_
      have F14 := Fs.other W9 (Or.inr (slot_ne (Or.inl (hw _ (List.mem_of_getElem? (i := 67) rfl))) (Or.inl (hw _ (List.mem_of_getElem? (i := 97) rfl))) (by decide) (t := .int) (t' := .boolean) (by decide) (by decide)))
      obtain ⟨T15, X15, e15, st15⟩ := getF X9 hx hZ hown (host := "") (Or.inl (hw _ (List.mem_of_getElem? (i := 66) rfl))) Via.refl e9 F14 (g := (mkF m 43 #[.val (.ref o0), .val (.long key), .second, .val (.int (bi (hzv = (0 : Int32))))] [(.ref o0), (.ref o0)])) rfl rfl (hb hby d5_43)
      refine OFin.go st15 ?_
      show OFin p e below _ (T15.setTop (mkF m 46 #[.val (.ref o0), .val (.long key), .second, .val (.int (bi (hzv = (0 : Int32))))] [(.int szv), (.ref o0)]))
      have S16 : ∀ t, Steps p.tables e below (T15.setTop (mkF m 48 #[.val (.ref o0), .val (.long key), .second, .val (.int (bi (hzv = (0 : Int32))))] [(.int (szv + (1 : Int32))), (.ref o0)])) t → Steps p.tables e below (T15.setTop (mkF m 46 #[.val (.ref o0), .val (.long key), .second, .val (.int (bi (hzv = (0 : Int32))))] [(.int szv), (.ref o0)])) t := by
        intro t k
        show Steps p.tables e below (T15.setTop (mkF m 46 #[.val (.ref o0), .val (.long key), .second, .val (.int (bi (hzv = (0 : Int32))))] [(.int szv), (.ref o0)])) t
        refine XS.iconst X15.here hx rfl (hb hby d5_46) ?_
        show Steps p.tables e below (T15.setTop (mkF m 47 #[.val (.ref o0), .val (.long key), .second, .val (.int (bi (hzv = (0 : Int32))))] [(.int (1 : Int32)), (.int szv), (.ref o0)])) t
        refine XS.iadd X15.here hx rfl (hb hby d5_47) rfl ?_
        exact k
      refine OFin.go S16 ?_
      have F17 := E0.wr W9
      obtain ⟨T18, h18, X18, e18, W18, st18⟩ := putF X15 hx hZ hown (host := "") (Or.inl (hw _ (List.mem_of_getElem? (i := 66) rfl))) Via.refl e15 F14 F17 (Or.inl (hw _ (List.mem_of_getElem? (i := 67) rfl))) (hw _ (List.mem_of_getElem? (i := 5) rfl)) (ty := .int) (by decide) rfl rfl (g := (mkF m 48 #[.val (.ref o0), .val (.long key), .second, .val (.int (bi (hzv = (0 : Int32))))] [(.int (szv + (1 : Int32))), (.ref o0)])) rfl rfl (hb hby d5_48)
      have Fw18 := F14.same W18
      have N18 := Fr.snoc X18 N9 geo
      have Z18 : n0 ≤ h18.size := Nat.le_trans Z9 (wr_le W18)
      have K18 := Keep.wr K9 W18 (Or.inl wtb)
      refine OFin.go st18 ?_
      show OFin p e below _ (T18.setTop (mkF m 51 #[.val (.ref o0), .val (.long key), .second, .val (.int (bi (hzv = (0 : Int32))))] []))
      have S19 : ∀ t, Steps p.tables e below (T18.setTop (mkF m 52 #[.val (.ref o0), .val (.long key), .second, .val (.int (bi (hzv = (0 : Int32))))] [(.int (bi (hzv = (0 : Int32))))])) t → Steps p.tables e below (T18.setTop (mkF m 51 #[.val (.ref o0), .val (.long key), .second, .val (.int (bi (hzv = (0 : Int32))))] [])) t := by
        intro t k
        show Steps p.tables e below (T18.setTop (mkF m 51 #[.val (.ref o0), .val (.long key), .second, .val (.int (bi (hzv = (0 : Int32))))] [])) t
        refine XS.iloadN X18.here hx rfl (hb hby d5_51) rfl ?_
        exact k
      refine OFin.go S19 ?_
      have F20 := F17.wr W18
      have F21 := Fp.other W9 (Or.inr (slot_ne (Or.inr (hw _ (List.mem_of_getElem? (i := 16) rfl))) (Or.inl (hw _ (List.mem_of_getElem? (i := 97) rfl))) (by decide) (t := (.array (.object "com/example/clockwrap/clockwrap/store/LongTable$Part"))) (t' := .boolean) (by decide) (by decide)))
      have F22 := F21.other W18 (Or.inr (slot_ne (Or.inr (hw _ (List.mem_of_getElem? (i := 16) rfl))) (Or.inl (hw _ (List.mem_of_getElem? (i := 67) rfl))) (by decide) (t := (.array (.object "com/example/clockwrap/clockwrap/store/LongTable$Part"))) (t' := .int) (by decide) (by decide)))
      have F23 := Fw9.other W18 (Or.inr (slot_ne (Or.inl (hw _ (List.mem_of_getElem? (i := 97) rfl))) (Or.inl (hw _ (List.mem_of_getElem? (i := 67) rfl))) (by decide) (t := .boolean) (t' := .int) (by decide) (by decide)))
      have F24 := Fz.other W9 (Or.inr (slot_ne (Or.inl (hw _ (List.mem_of_getElem? (i := 99) rfl))) (Or.inl (hw _ (List.mem_of_getElem? (i := 97) rfl))) (by decide) (t := .long) (t' := .boolean) (by decide) (by decide)))
      have F25 := F24.other W18 (Or.inr (slot_ne (Or.inl (hw _ (List.mem_of_getElem? (i := 99) rfl))) (Or.inl (hw _ (List.mem_of_getElem? (i := 67) rfl))) (by decide) (t := .long) (t' := .int) (by decide) (by decide)))
      have F26 := Vp.other W9 (Ne.symm nop)
      have F27 := F26.other W18 (Ne.symm nop)
      have F28 := FAM.keep hFM (Keep.of_wr W9) (allS (Or.inl rfl) all0)
      have F29 := FAM.keep F28 (Keep.of_wr W18) (allS (Or.inl rfl) all0)
      have F30 := Nat.le_trans hzl (wr_le W9)
      have F31 := Nat.le_trans F30 (wr_le W18)
      exact finZ X18 hx Bd.notSynchronized (t := .boolean) Bd.returns (by simp) (hb hby d5_52) (nar_bi _) (by decide) (by decide) (by rw [e18]; exact ⟨_, Wl, rfl, N18, K18, ⟨pr, pa, FF, KK, VV, TT, 1, _, zvv, zz, F20, F22, Fw18, F23, F25, F27, FAM.mono F29 (Nat.le_succ _), F31, nop, geo, ⟨wtb, wpr, wF, wW⟩, Or.inl rfl, fun q => absurd q (by decide), fun k v q => ((addM_l key).2 M k v (fun r => q (r.trans h2))).trans (hM k v q), own_add0 h2 hz01 hz0 hM0⟩, fun x q => Or.inl q⟩)
    · -- pc 38: not (hzv = (0 : Int32))
      have S32 : ∀ t, Steps p.tables e below (T9.setTop (mkF m 51 #[.val (.ref o0), .val (.long key), .second, .val (.int (bi (hzv = (0 : Int32))))] [])) t → Steps p.tables e below (T9.setTop (mkF m 38 #[.val (.ref o0), .val (.long key), .second, .val (.int (bi (hzv = (0 : Int32))))] [(.int (bi (hzv = (0 : Int32))))])) t := by
        intro t k
        show Steps p.tables e below (T9.setTop (mkF m 38 #[.val (.ref o0), .val (.long key), .second, .val (.int (bi (hzv = (0 : Int32))))] [(.int (bi (hzv = (0 : Int32))))])) t
        refine XS.ifYes X9.here hx rfl (pc0 := 38) (pc' := 51) rfl (hb hby d5_38) rfl (bi_eq_t h11) (by decide) (by decide) ?_
        exact k
      refine OFin.go S32 ?_
      have S33 : ∀ t, Steps p.tables e below (T9.setTop (mkF m 52 #[.val (.ref o0), .val (.long key), .second, .val (.int (bi (hzv = (0 : Int32))))] [(.int (bi (hzv = (0 : Int32))))])) t → Steps p.tables e below (T9.setTop (mkF m 51 #[.val (.ref o0), .val (.long key), .second, .val (.int (bi (hzv = (0 : Int32))))] [])) t := by
        intro t k
        show Steps p.tables e below (T9.setTop (mkF m 51 #[.val (.ref o0), .val (.long key), .second, .val (.int (bi (hzv = (0 : Int32))))] [])) t
        refine XS.iloadN X9.here hx rfl (hb hby d5_51) rfl ?_
        exact k
      refine OFin.go S33 ?_
      have F34 := E0.wr W9
      have F35 := Fp.other W9 (Or.inr (slot_ne (Or.inr (hw _ (List.mem_of_getElem? (i := 16) rfl))) (Or.inl (hw _ (List.mem_of_getElem? (i := 97) rfl))) (by decide) (t := (.array (.object "com/example/clockwrap/clockwrap/store/LongTable$Part"))) (t' := .boolean) (by decide) (by decide)))
      have F36 := Fs.other W9 (Or.inr (slot_ne (Or.inl (hw _ (List.mem_of_getElem? (i := 67) rfl))) (Or.inl (hw _ (List.mem_of_getElem? (i := 97) rfl))) (by decide) (t := .int) (t' := .boolean) (by decide) (by decide)))
      have F37 := Fz.other W9 (Or.inr (slot_ne (Or.inl (hw _ (List.mem_of_getElem? (i := 99) rfl))) (Or.inl (hw _ (List.mem_of_getElem? (i := 97) rfl))) (by decide) (t := .long) (t' := .boolean) (by decide) (by decide)))
      have F38 := Vp.other W9 (Ne.symm nop)
      have F39 := FAM.keep hFM (Keep.of_wr W9) (allS (Or.inl rfl) all0)
      have F40 := Nat.le_trans hzl (wr_le W9)
      exact finZ X9 hx Bd.notSynchronized (t := .boolean) Bd.returns (by simp) (hb hby d5_52) (nar_bi _) (by decide) (by decide) (by rw [e9]; exact ⟨_, Wl, rfl, N9, K9, ⟨pr, pa, FF, KK, VV, TT, 1, _, zvv, zz, F34, F35, F36, Fw9, F37, F38, FAM.mono F39 (Nat.le_succ _), F40, nop, geo, ⟨wtb, wpr, wF, wW⟩, Or.inl rfl, fun q => absurd q (by decide), fun k v q => ((addM_l key).2 M k v (fun r => q (r.trans h2))).trans (hM k v q), own_add0 h2 hz01 hz0 hM0⟩, fun x q => Or.inl q⟩)
  · -- pc 3: not (key = (0 : Int64))
    have S41 : ∀ t, Steps p.tables e below (s₁.setTop (mkF m 27 #[.val (.ref o0), .val (.long key), .second, .unset] [])) t → Steps p.tables e below (s₁.setTop (mkF m 3 #[.val (.ref o0), .val (.long key), .second, .unset] [(.int (lcmpW key (0 : Int64)))])) t := by
      intro t k
      show Steps p.tables e below (s₁.setTop (mkF m 3 #[.val (.ref o0), .val (.long key), .second, .unset] [(.int (lcmpW key (0 : Int64)))])) t
      refine XS.ifYes X0.here hx rfl (pc0 := 3) (pc' := 27) rfl (hb hby d5_3) rfl (lc_ne_t h2) (by decide) (by decide) ?_
      exact k
    refine OFin.go S41 ?_
    have S42 : ∀ t, Steps p.tables e below (s₁.setTop (mkF m 29 #[.val (.ref o0), .val (.long key), .second, .unset] [(.long key), (.ref o0)])) t → Steps p.tables e below (s₁.setTop (mkF m 27 #[.val (.ref o0), .val (.long key), .second, .unset] [])) t := by
      intro t k
      show Steps p.tables e below (s₁.setTop (mkF m 27 #[.val (.ref o0), .val (.long key), .second, .unset] [])) t
      refine XS.aloadN X0.here hx rfl (hb hby d5_27) rfl rfl ?_
      show Steps p.tables e below (s₁.setTop (mkF m 28 #[.val (.ref o0), .val (.long key), .second, .unset] [(.ref o0)])) t
      refine XS.lloadN X0.here hx rfl (hb hby d5_28) rfl ?_
      exact k
    refine OFin.go S42 ?_
    obtain ⟨_, T43, Lc43, X43, hQ43, st43⟩ := privQ X0 hx hZ (y := (⟨"com/example/clockwrap/clockwrap/store/LongTable", "part", "(J)Lcom/example/clockwrap/clockwrap/store/LongTable$Part;"⟩ : MethodName)) hown (hw _ (List.mem_of_getElem? (i := 39) rfl)) (hw _ (List.mem_of_getElem? (i := 40) rfl)) (hw _ (List.mem_of_getElem? (i := 6) rfl)) (hw _ (List.mem_of_getElem? (i := 42) rfl)) (hw _ (List.mem_of_getElem? (i := 41) rfl)) (hw _ (List.mem_of_getElem? (i := 5) rfl)) (by decide) E0 (argsL := [(.long key)]) (rest := []) (rm6 l Z a0 hw [] o0 key pr pa h0 n0 Z0 Fp Vp) (W := 0) (by decide) (by decide) e0 (g := (mkF m 29 #[.val (.ref o0), .val (.long key), .second, .unset] [(.long key), (.ref o0)])) rfl (by rw [hml]; rfl) (lenOf pd_5 rfl) rfl (by show 2 * 0 + _ ≤ _; exact Nat.le_of_eq rfl) (hb hby d5_29) (Nat.le_of_ble_eq_true rfl) (Nat.le_of_ble_eq_true rfl)
    obtain ⟨rfl, N43q, e43⟩ := hQ43
    have N43 := Fr.app N0 N43q
    refine OFin.go st43 ?_
    show OFin p e below _ (T43.setTop (mkF m 32 #[.val (.ref o0), .val (.long key), .second, .unset] [(.ref (pa (ix key)))]))
    have S44 : ∀ t, Steps p.tables e below (T43.setTop (mkF m 33 #[.val (.ref o0), .val (.long key), .second, .unset] [(.long key), (.ref (pa (ix key)))])) t → Steps p.tables e below (T43.setTop (mkF m 32 #[.val (.ref o0), .val (.long key), .second, .unset] [(.ref (pa (ix key)))])) t := by
      intro t k
      show Steps p.tables e below (T43.setTop (mkF m 32 #[.val (.ref o0), .val (.long key), .second, .unset] [(.ref (pa (ix key)))])) t
      refine XS.lloadN X43.here hx rfl (hb hby d5_32) rfl ?_
      exact k
    refine OFin.go S44 ?_
    obtain ⟨_, T45, Lc45, X45, hQ45, st45⟩ := virtQ X43 hx hZ (y := (⟨"com/example/clockwrap/clockwrap/store/LongTable$Part", "add", "(J)Z"⟩ : MethodName)) hown (hw _ (List.mem_of_getElem? (i := 44) rfl)) (hw _ (List.mem_of_getElem? (i := 46) rfl)) (hw _ (List.mem_of_getElem? (i := 18) rfl)) (hw _ (List.mem_of_getElem? (i := 48) rfl)) (hw _ (List.mem_of_getElem? (i := 45) rfl)) (hw _ (List.mem_of_getElem? (i := 47) rfl)) (by decide) (hFM.1 _ (ix_lt key)).1.exa (argsL := [(.long key)]) (rest := []) (p_add l Z a0 hw (pa (ix key)) key (FF (ix key)) (KK (ix key)) (VV (ix key)) (TT (ix key)) mm h0 n0 Z0 (hFM.1 _ (ix_lt key)).1 (fun x q => ((hFM.1 _ (ix_lt key)).2.2 x q).1) (hFM.1 _ (ix_lt key)).2.1 hmm h2) (W := 0) (by decide) (by decide) e43 (g := (mkF m 33 #[.val (.ref o0), .val (.long key), .second, .unset] [(.long key), (.ref (pa (ix key)))])) rfl (by rw [hml]; rfl) (lenOf pd_6 rfl) rfl (by show 2 * 0 + _ ≤ _; exact Nat.le_of_eq rfl) (hb hby d5_33) (Nat.le_of_ble_eq_true rfl) (Nat.le_of_ble_eq_true rfl)
    obtain ⟨bb, F', kf', vf', tk', rfl, N45q, K45q, hT', hs', hP', hR'⟩ := hQ45
    have Z45 : n0 ≤ T45.heap.size := Nat.le_trans Z0 K45q.1
    obtain ⟨M45, wU, hsb⟩ := own_B hFM (ix_lt key) hzl E0.lt Vp.lt Z0 K45q hT' hs' hP' wtb wpr wF wW
    have K45 := Keep.trans K0 K45q (fun x q => Or.inl (wF _ (ix_lt key) x q))
    have N45 := Fr.app N43 N45q
    refine OFin.go st45 ?_
    show OFin p e below _ (T45.setTop (mkF m 36 #[.val (.ref o0), .val (.long key), .second, .unset] [(.int bb)]))
    have S46 : ∀ t, Steps p.tables e below (T45.setTop (mkF m 38 #[.val (.ref o0), .val (.long key), .second, .val (.int bb)] [(.int bb)])) t → Steps p.tables e below (T45.setTop (mkF m 36 #[.val (.ref o0), .val (.long key), .second, .unset] [(.int bb)])) t := by
      intro t k
      show Steps p.tables e below (T45.setTop (mkF m 36 #[.val (.ref o0), .val (.long key), .second, .unset] [(.int bb)])) t
      refine XS.istoreN X45.here hx rfl (hb hby d5_36) rfl (l' := #[.val (.ref o0), .val (.long key), .second, .val (.int bb)]) rfl ?_
      show Steps p.tables e below (T45.setTop (mkF m 37 #[.val (.ref o0), .val (.long key), .second, .val (.int bb)] [])) t
      refine XS.iloadN X45.here hx rfl (hb hby d5_37) rfl ?_
      exact k
    refine OFin.go S46 ?_
    by_cases h47 : (bb = (0 : Int32))
    · -- pc 38: (bb = (0 : Int32))
      have S48 : ∀ t, Steps p.tables e below (T45.setTop (mkF m 51 #[.val (.ref o0), .val (.long key), .second, .val (.int bb)] [])) t → Steps p.tables e below (T45.setTop (mkF m 38 #[.val (.ref o0), .val (.long key), .second, .val (.int bb)] [(.int bb)])) t := by
        intro t k
        show Steps p.tables e below (T45.setTop (mkF m 38 #[.val (.ref o0), .val (.long key), .second, .val (.int bb)] [(.int bb)])) t
        refine XS.ifYes X45.here hx rfl (pc0 := 38) (pc' := 51) rfl (hb hby d5_38) rfl ((if0 _ _).trans (teq h47).1) (by decide) (by decide) ?_
        exact k
      refine OFin.go S48 ?_
      have S49 : ∀ t, Steps p.tables e below (T45.setTop (mkF m 52 #[.val (.ref o0), .val (.long key), .second, .val (.int bb)] [(.int bb)])) t → Steps p.tables e below (T45.setTop (mkF m 51 #[.val (.ref o0), .val (.long key), .second, .val (.int bb)] [])) t := by
        intro t k
        show Steps p.tables e below (T45.setTop (mkF m 51 #[.val (.ref o0), .val (.long key), .second, .val (.int bb)] [])) t
        refine XS.iloadN X45.here hx rfl (hb hby d5_51) rfl ?_
        exact k
      refine OFin.go S49 ?_
      have F50 := E0.keep K45q
      have F51 := Fp.keep K45q (fun q => ((hFM.1 _ (ix_lt key)).2.2 _ q).2.2.1 rfl)
      have F52 := Fs.keep K45q (fun q => ((hFM.1 _ (ix_lt key)).2.2 _ q).2.2.1 rfl)
      have F53 := Fh.keep K45q (fun q => ((hFM.1 _ (ix_lt key)).2.2 _ q).2.2.1 rfl)
      have F54 := Fz.keep K45q (fun q => ((hFM.1 _ (ix_lt key)).2.2 _ q).2.2.1 rfl)
      have F55 := Vp.keep K45q (fun q => ((hFM.1 _ (ix_lt key)).2.2 _ q).2.2.2 rfl)
      exact finZ X45 hx Bd.notSynchronized (t := .boolean) Bd.returns (by simp) (hb hby d5_52) rfl (by decide) (by decide) (by exact ⟨_, Wl ++ F', rfl, N45, K45, ⟨pr, pa, upd FF (ix key) F', upd KK (ix key) kf', upd VV (ix key) vf', upd TT (ix key) tk', hzv, _, zvv, _, F50, F51, F52, F53, F54, F55, M45, (Nat.le_refl T45.heap.size), nop, geo, wU, hz01, hz0, own_rel hM h2 (addM_l key) hR', fun v => ((addM_l key).2 M 0 v (fun r => h2 r.symm)).trans (hM0 v)⟩, hsb⟩)
    · -- pc 38: not (bb = (0 : Int32))
      have S56 : ∀ t, Steps p.tables e below (T45.setTop (mkF m 41 #[.val (.ref o0), .val (.long key), .second, .val (.int bb)] [])) t → Steps p.tables e below (T45.setTop (mkF m 38 #[.val (.ref o0), .val (.long key), .second, .val (.int bb)] [(.int bb)])) t := by
        intro t k
        show Steps p.tables e below (T45.setTop (mkF m 38 #[.val (.ref o0), .val (.long key), .second, .val (.int bb)] [(.int bb)])) t
        refine XS.ifNo X45.here hx rfl (hb hby d5_38) rfl ((if0 _ _).trans (feq h47).1) ?_
        exact k
      refine OFin.go S56 ?_
      have S57 : ∀ t, Steps p.tables e below (T45.setTop (mkF m 43 #[.val (.ref o0), .val (.long key), .second, .val (.int bb)] [(.ref o0), (.ref o0)])) t → Steps p.tables e below (T45.setTop (mkF m 41 #[.val (.ref o0), .val (.long key), .second, .val (.int bb)] [])) t := by
        intro t k
        show Steps p.tables e below (T45.setTop (mkF m 41 #[.val (.ref o0), .val (.long key), .second, .val (.int bb)] [])) t
        refine XS.aloadN X45.here hx rfl (hb hby d5_41) rfl rfl ?_
        show Steps p.tables e below (T45.setTop (mkF m 42 #[.val (.ref o0), .val (.long key), .second, .val (.int bb)] [(.ref o0)])) t
        refine XS.dup X45.here hx rfl (hb hby d5_42) rfl rfl ?_
        exact k
      refine OFin.go S57 ?_
      have F58 := Fs.keep K45q (fun q => ((hFM.1 _ (ix_lt key)).2.2 _ q).2.2.1 rfl)
      obtain ⟨T59, X59, e59, st59⟩ := getF X45 hx hZ hown (host := "") (Or.inl (hw _ (List.mem_of_getElem? (i := 66) rfl))) Via.refl rfl F58 (g := (mkF m 43 #[.val (.ref o0), .val (.long key), .second, .val (.int bb)] [(.ref o0), (.ref o0)])) rfl rfl (hb hby d5_43)
      refine OFin.go st59 ?_
      show OFin p e below _ (T59.setTop (mkF m 46 #[.val (.ref o0), .val (.long key), .second, .val (.int bb)] [(.int szv), (.ref o0)]))
      have S60 : ∀ t, Steps p.tables e below (T59.setTop (mkF m 48 #[.val (.ref o0), .val (.long key), .second, .val (.int bb)] [(.int (szv + (1 : Int32))), (.ref o0)])) t → Steps p.tables e below (T59.setTop (mkF m 46 #[.val (.ref o0), .val (.long key), .second, .val (.int bb)] [(.int szv), (.ref o0)])) t := by
        intro t k
        show Steps p.tables e below (T59.setTop (mkF m 46 #[.val (.ref o0), .val (.long key), .second, .val (.int bb)] [(.int szv), (.ref o0)])) t
        refine XS.iconst X59.here hx rfl (hb hby d5_46) ?_
        show Steps p.tables e below (T59.setTop (mkF m 47 #[.val (.ref o0), .val (.long key), .second, .val (.int bb)] [(.int (1 : Int32)), (.int szv), (.ref o0)])) t
        refine XS.iadd X59.here hx rfl (hb hby d5_47) rfl ?_
        exact k
      refine OFin.go S60 ?_
      have F61 := E0.keep K45q
      obtain ⟨T62, h62, X62, e62, W62, st62⟩ := putF X59 hx hZ hown (host := "") (Or.inl (hw _ (List.mem_of_getElem? (i := 66) rfl))) Via.refl e59 F58 F61 (Or.inl (hw _ (List.mem_of_getElem? (i := 67) rfl))) (hw _ (List.mem_of_getElem? (i := 5) rfl)) (ty := .int) (by decide) rfl rfl (g := (mkF m 48 #[.val (.ref o0), .val (.long key), .second, .val (.int bb)] [(.int (szv + (1 : Int32))), (.ref o0)])) rfl rfl (hb hby d5_48)
      have Fw62 := F58.same W62
      have N62 := Fr.snoc X62 N45 geo
      have Z62 : n0 ≤ h62.size := Nat.le_trans Z45 (wr_le W62)
      have K62 := Keep.wr K45 W62 (Or.inl wtb)
      refine OFin.go st62 ?_
      show OFin p e below _ (T62.setTop (mkF m 51 #[.val (.ref o0), .val (.long key), .second, .val (.int bb)] []))
      have S63 : ∀ t, Steps p.tables e below (T62.setTop (mkF m 52 #[.val (.ref o0), .val (.long key), .second, .val (.int bb)] [(.int bb)])) t → Steps p.tables e below (T62.setTop (mkF m 51 #[.val (.ref o0), .val (.long key), .second, .val (.int bb)] [])) t := by
        intro t k
        show Steps p.tables e below (T62.setTop (mkF m 51 #[.val (.ref o0), .val (.long key), .second, .val (.int bb)] [])) t
        refine XS.iloadN X62.here hx rfl (hb hby d5_51) rfl ?_
        exact k
      refine OFin.go S63 ?_
      have F64 := F61.wr W62
      have F65 := Fp.keep K45q (fun q => ((hFM.1 _ (ix_lt key)).2.2 _ q).2.2.1 rfl)
      have F66 := F65.other W62 (Or.inr (slot_ne (Or.inr (hw _ (List.mem_of_getElem? (i := 16) rfl))) (Or.inl (hw _ (List.mem_of_getElem? (i := 67) rfl))) (by decide) (t := (.array (.object "com/example/clockwrap/clockwrap/store/LongTable$Part"))) (t' := .int) (by decide) (by decide)))
      have F67 := Fh.keep K45q (fun q => ((hFM.1 _ (ix_lt key)).2.2 _ q).2.2.1 rfl)
      have F68 := F67.other W62 (Or.inr (slot_ne (Or.inl (hw _ (List.mem_of_getElem? (i := 97) rfl))) (Or.inl (hw _ (List.mem_of_getElem? (i := 67) rfl))) (by decide) (t := .boolean) (t' := .int) (by decide) (by decide)))
      have F69 := Fz.keep K45q (fun q => ((hFM.1 _ (ix_lt key)).2.2 _ q).2.2.1 rfl)
      have F70 := F69.other W62 (Or.inr (slot_ne (Or.inl (hw _ (List.mem_of_getElem? (i := 99) rfl))) (Or.inl (hw _ (List.mem_of_getElem? (i := 67) rfl))) (by decide) (t := .long) (t' := .int) (by decide) (by decide)))
      have F71 := Vp.keep K45q (fun q => ((hFM.1 _ (ix_lt key)).2.2 _ q).2.2.2 rfl)
      have F72 := F71.other W62 (Ne.symm nop)
      have F73 := FAM.keep M45 (Keep.of_wr W62) (allS (Or.inl rfl) all0)
      have F74 := Nat.le_trans (Nat.le_refl T45.heap.size) (wr_le W62)
      exact finZ X62 hx Bd.notSynchronized (t := .boolean) Bd.returns (by simp) (hb hby d5_52) rfl (by decide) (by decide) (by rw [e62]; exact ⟨_, Wl ++ F', rfl, N62, K62, ⟨pr, pa, upd FF (ix key) F', upd KK (ix key) kf', upd VV (ix key) vf', upd TT (ix key) tk', hzv, _, zvv, _, F64, F66, Fw62, F68, F70, F72, F73, F74, nop, geo, wU, hz01, hz0, own_rel hM h2 (addM_l key) hR', fun v => ((addM_l key).2 M 0 v (fun r => h2 r.symm)).trans (hM0 v)⟩, hsb⟩)
theorem ef_rm14 (m : MethodId) (o0 : Addr) (key : Int64) : entryFrame m #[(.ref o0), (.long key)] 4 = mkF m 0 #[.val (.ref o0), .val (.long key), .second, .unset] [] := by first | (simp [entryFrame, mkF, argsToLocals, Value.category]; done) | rfl
def Q_rm14 (Z : State) (o0 : Addr) (key : Int64) (Wl : List Addr) (mm : Nat) (M : Int64 → Int64 → Prop) (h0 : Heap) (n0 : Nat) (v : Option Value) (h : Heap) (L : List Loc) : Prop := ∃ (b : Int32) (Wl' : List Addr), v = some (.int b) ∧ Fr n0 L ∧ Keep h0 h Wl ∧ TBL Z h n0 o0 Wl' (mm + 1) (remM key M) ∧ ∀ x ∈ Wl', x ∈ Wl ∨ h0.size ≤ x
theorem d14_0 : decode prog_32_method_7_code 0 = .ok (.lload_n 1, 1) := by decide +kernel
theorem d14_1 : decode prog_32_method_7_code 1 = .ok (.lconst 0, 1) := by decide +kernel
theorem d14_2 : decode prog_32_method_7_code 2 = .ok (.lcmp, 1) := by decide +kernel
theorem d14_3 : decode prog_32_method_7_code 3 = .ok (.ifCond .ne 21, 3) := by decide +kernel
theorem d14_6 : decode prog_32_method_7_code 6 = .ok (.aload_n 0, 1) := by decide +kernel
theorem d14_7 : decode prog_32_method_7_code 7 = .ok (.getfield 20, 3) := by decide +kernel
theorem d14_10 : decode prog_32_method_7_code 10 = .ok (.istore_n 3, 1) := by decide +kernel
theorem d14_11 : decode prog_32_method_7_code 11 = .ok (.aload_n 0, 1) := by decide +kernel
theorem d14_12 : decode prog_32_method_7_code 12 = .ok (.iconst 0, 1) := by decide +kernel
theorem d14_13 : decode prog_32_method_7_code 13 = .ok (.putfield 20, 3) := by decide +kernel
theorem d14_16 : decode prog_32_method_7_code 16 = .ok (.aload_n 0, 1) := by decide +kernel
theorem d14_17 : decode prog_32_method_7_code 17 = .ok (.lconst 0, 1) := by decide +kernel
theorem d14_18 : decode prog_32_method_7_code 18 = .ok (.putfield 35, 3) := by decide +kernel
theorem d14_21 : decode prog_32_method_7_code 21 = .ok (.goto 13, 3) := by decide +kernel
theorem d14_34 : decode prog_32_method_7_code 34 = .ok (.iload_n 3, 1) := by decide +kernel
theorem d14_35 : decode prog_32_method_7_code 35 = .ok (.ifCond .eq 13, 3) := by decide +kernel
theorem d14_48 : decode prog_32_method_7_code 48 = .ok (.iload_n 3, 1) := by decide +kernel
theorem d14_49 : decode prog_32_method_7_code 49 = .ok (.ireturn, 1) := by decide +kernel
theorem d14_38 : decode prog_32_method_7_code 38 = .ok (.aload_n 0, 1) := by decide +kernel
theorem d14_39 : decode prog_32_method_7_code 39 = .ok (.dup, 1) := by decide +kernel
theorem d14_40 : decode prog_32_method_7_code 40 = .ok (.getfield 16, 3) := by decide +kernel
theorem d14_43 : decode prog_32_method_7_code 43 = .ok (.iconst 1, 1) := by decide +kernel
theorem d14_44 : decode prog_32_method_7_code 44 = .ok (.isub, 1) := by decide +kernel
theorem d14_45 : decode prog_32_method_7_code 45 = .ok (.putfield 16, 3) := by decide +kernel
theorem d14_24 : decode prog_32_method_7_code 24 = .ok (.aload_n 0, 1) := by decide +kernel
theorem d14_25 : decode prog_32_method_7_code 25 = .ok (.lload_n 1, 1) := by decide +kernel
theorem d14_26 : decode prog_32_method_7_code 26 = .ok (.invokevirtual 24, 3) := by decide +kernel
theorem d14_29 : decode prog_32_method_7_code 29 = .ok (.lload_n 1, 1) := by decide +kernel
theorem d14_30 : decode prog_32_method_7_code 30 = .ok (.invokevirtual 47, 3) := by decide +kernel
theorem d14_33 : decode prog_32_method_7_code 33 = .ok (.istore_n 3, 1) := by decide +kernel
set_option maxRecDepth 65536 in
set_option maxHeartbeats 40000000 in
theorem rm14 (l : Launch) (Z : State) (a0 : Array Value) (hw : ∀ d ∈ tables_1, d.before a0 Z = true) (ws : List Jvm.Cond) (o0 : Addr) (key : Int64) (Wl : List Addr) (mm : Nat) (M : Int64 → Int64 → Prop) (h0 : Heap) (n0 : Nat) (Z0 : n0 ≤ h0.size) (hT : TBL Z h0 n0 o0 Wl mm M) (hmm : mm < 10) :
    MetFree l (⟨"com/example/clockwrap/clockwrap/store/LongTable", "remove", "(J)Z"⟩ : MethodName) (head1 (Jvm.Cond.code (⟨"com/example/clockwrap/clockwrap/store/LongTable", "remove", "(J)Z"⟩ : MethodName) prog_32_method_7_code 4 (some .boolean) :: ws) ({ frames := 3, cells := 0, slots := 0, locals := 60 } : Room)) (fun a U => a = #[(.ref o0), (.long key)] ∧ Z.Warmed39 U.vm ∧ U.heap = h0) (fun _ _ _ _ _ => True) (fun _ U o U' => ∃ v L, o = .returned v ∧ (Q_rm14 Z o0 key Wl mm M h0 n0) v U'.heap L ∧ FrameEnd U o U' L ({ frames := 3, cells := 0, slots := 0, locals := 60 } : Room).cells ({ frames := 3, cells := 0, slots := 0, locals := 60 } : Room).slots) := by
  refine MetFree.of_bodySF (plainFor_of_name pn_2) hisR ?_
  intro p e s m args below meth c s₁ Bd hml0 hP hK
  obtain ⟨rfl, hZ, hh⟩ := hP
  have hx := Bd.exec
  have hby := Bd.bytes
  have hml : c.maxLocals = 4 := hml0
  have hown : s.vm.findClass "com/example/clockwrap/clockwrap/store/LongTable" = some m.cls := findClass_of_methodNamed Bd.named
  have hnm := (name_of_methodNamed Bd.named Bd.method).1
  have X0 : Stand p l e ({ frames := 3, cells := 0, slots := 0, locals := 60 } : Room) s m #[(.ref o0), (.long key)] below meth c s₁ [] 0 0 := Stand.of_body Bd
  have e0 : s₁.heap = h0 := by rw [← hh, Bd.state]; rfl
  have N0 := Fr.nil n0
  show OFin p e below (ORet (Q_rm14 Z o0 key Wl mm M h0 n0) s ({ frames := 3, cells := 0, slots := 0, locals := 60 } : Room).cells ({ frames := 3, cells := 0, slots := 0, locals := 60 } : Room).slots) (s₁.setTop (entryFrame m #[(.ref o0), (.long key)] 4))
  refine OFin.go (fun t k => castTop (ef_rm14 m o0 key) k) ?_
  obtain ⟨pr, pa, FF, KK, VV, TT, hzv, szv, zvv, zz, E0, Fp, Fs, Fh, Fz, Vp, hFM, hzl, nop, geo, ⟨wtb, wpr, wF, wW⟩, hz01, hz0, hM, hM0⟩ := hT
  have K0 := Keep.refl h0 Wl
  show OFin p e below (ORet (Q_rm14 Z o0 key Wl mm M h0 n0) s ({ frames := 3, cells := 0, slots := 0, locals := 60 } : Room).cells ({ frames := 3, cells := 0, slots := 0, locals := 60 } : Room).slots) (s₁.setTop (mkF m 0 #[.val (.ref o0), .val (.long key), .second, .unset] []))
  have S1 : ∀ t, Steps p.tables e below (s₁.setTop (mkF m 3 #[.val (.ref o0), .val (.long key), .second, .unset] [(.int (lcmpW key (0 : Int64)))])) t → Steps p.tables e below (s₁.setTop (mkF m 0 #[.val (.ref o0), .val (.long key), .second, .unset] [])) t := by
    intro t k
    show Steps p.tables e below (s₁.setTop (mkF m 0 #[.val (.ref o0), .val (.long key), .second, .unset] [])) t
    refine XS.lloadN X0.here hx rfl (hb hby d14_0) rfl ?_
    show Steps p.tables e below (s₁.setTop (mkF m 1 #[.val (.ref o0), .val (.long key), .second, .unset] [(.long key)])) t
    refine XS.lconst X0.here hx rfl (hb hby d14_1) ?_
    show Steps p.tables e below (s₁.setTop (mkF m 2 #[.val (.ref o0), .val (.long key), .second, .unset] [(.long (0 : Int64)), (.long key)])) t
    refine XS.lcmp X0.here hx rfl (hb hby d14_2) rfl ?_
    exact k
  refine OFin.go S1 ?_
  by_cases h2 : (key = (0 : Int64))
  · -- pc 3: (key = (0 : Int64))
    have S3 : ∀ t, Steps p.tables e below (s₁.setTop (mkF m 6 #[.val (.ref o0), .val (.long key), .second, .unset] [])) t → Steps p.tables e below (s₁.setTop (mkF m 3 #[.val (.ref o0), .val (.long key), .second, .unset] [(.int (lcmpW key (0 : Int64)))])) t := by
      intro t k
      show Steps p.tables e below (s₁.setTop (mkF m 3 #[.val (.ref o0), .val (.long key), .second, .unset] [(.int (lcmpW key (0 : Int64)))])) t
      refine XS.ifNo X0.here hx rfl (hb hby d14_3) rfl (lc_ne_f h2) ?_
      exact k
    refine OFin.go S3 ?_
    have S4 : ∀ t, Steps p.tables e below (s₁.setTop (mkF m 7 #[.val (.ref o0), .val (.long key), .second, .unset] [(.ref o0)])) t → Steps p.tables e below (s₁.setTop (mkF m 6 #[.val (.ref o0), .val (.long key), .second, .unset] [])) t := by
      intro t k
      show Steps p.tables e below (s₁.setTop (mkF m 6 #[.val (.ref o0), .val (.long key), .second, .unset] [])) t
      refine XS.aloadN X0.here hx rfl (hb hby d14_6) rfl rfl ?_
      exact k
    refine OFin.go S4 ?_
    obtain ⟨T5, X5, e5, st5⟩ := getF X0 hx hZ hown (host := "") (Or.inl (hw _ (List.mem_of_getElem? (i := 96) rfl))) Via.refl e0 Fh (g := (mkF m 7 #[.val (.ref o0), .val (.long key), .second, .unset] [(.ref o0)])) rfl rfl (hb hby d14_7)
    refine OFin.go st5 ?_
    show OFin p e below _ (T5.setTop (mkF m 10 #[.val (.ref o0), .val (.long key), .second, .unset] [(.int hzv)]))
    have S6 : ∀ t, Steps p.tables e below (T5.setTop (mkF m 13 #[.val (.ref o0), .val (.long key), .second, .val (.int hzv)] [(.int (0 : Int32)), (.ref o0)])) t → Steps p.tables e below (T5.setTop (mkF m 10 #[.val (.ref o0), .val (.long key), .second, .unset] [(.int hzv)])) t := by
      intro t k
      show Steps p.tables e below (T5.setTop (mkF m 10 #[.val (.ref o0), .val (.long key), .second, .unset] [(.int hzv)])) t
      refine XS.istoreN X5.here hx rfl (hb hby d14_10) rfl (l' := #[.val (.ref o0), .val (.long key), .second, .val (.int hzv)]) rfl ?_
      show Steps p.tables e below (T5.setTop (mkF m 11 #[.val (.ref o0), .val (.long key), .second, .val (.int hzv)] [])) t
      refine XS.aloadN X5.here hx rfl (hb hby d14_11) rfl rfl ?_
      show Steps p.tables e below (T5.setTop (mkF m 12 #[.val (.ref o0), .val (.long key), .second, .val (.int hzv)] [(.ref o0)])) t
      refine XS.iconst X5.here hx rfl (hb hby d14_12) ?_
      exact k
    refine OFin.go S6 ?_
    obtain ⟨T7, h7, X7, e7, W7, st7⟩ := putF X5 hx hZ hown (host := "") (Or.inl (hw _ (List.mem_of_getElem? (i := 96) rfl))) Via.refl e5 Fh E0 (Or.inl (hw _ (List.mem_of_getElem? (i := 97) rfl))) (hw _ (List.mem_of_getElem? (i := 5) rfl)) (ty := .boolean) (by decide) rfl rfl (g := (mkF m 13 #[.val (.ref o0), .val (.long key), .second, .val (.int hzv)] [(.int (0 : Int32)), (.ref o0)])) rfl rfl (hb hby d14_13)
    have Fw7 := Fh.same W7
    have N7 := Fr.snoc X7 N0 geo
    have Z7 : n0 ≤ h7.size := Nat.le_trans Z0 (wr_le W7)
    have K7 := Keep.wr K0 W7 (Or.inl wtb)
    refine OFin.go st7 ?_
    show OFin p e below _ (T7.setTop (mkF m 16 #[.val (.ref o0), .val (.long key), .second, .val (.int hzv)] []))
    have S8 : ∀ t, Steps p.tables e below (T7.setTop (mkF m 18 #[.val (.ref o0), .val (.long key), .second, .val (.int hzv)] [(.long (0 : Int64)), (.ref o0)])) t → Steps p.tables e below (T7.setTop (mkF m 16 #[.val (.ref o0), .val (.long key), .second, .val (.int hzv)] [])) t := by
      intro t k
      show Steps p.tables e below (T7.setTop (mkF m 16 #[.val (.ref o0), .val (.long key), .second, .val (.int hzv)] [])) t
      refine XS.aloadN X7.here hx rfl (hb hby d14_16) rfl rfl ?_
      show Steps p.tables e below (T7.setTop (mkF m 17 #[.val (.ref o0), .val (.long key), .second, .val (.int hzv)] [(.ref o0)])) t
      refine XS.lconst X7.here hx rfl (hb hby d14_17) ?_
      exact k
    refine OFin.go S8 ?_
    have F9 := Fz.other W7 (Or.inr (slot_ne (Or.inl (hw _ (List.mem_of_getElem? (i := 99) rfl))) (Or.inl (hw _ (List.mem_of_getElem? (i := 97) rfl))) (by decide) (t := .long) (t' := .boolean) (by decide) (by decide)))
    have F10 := E0.wr W7
    obtain ⟨T11, h11, X11, e11, W11, st11⟩ := putF X7 hx hZ hown (host := "") (Or.inl (hw _ (List.mem_of_getElem? (i := 98) rfl))) Via.refl e7 F9 F10 (Or.inl (hw _ (List.mem_of_getElem? (i := 99) rfl))) (hw _ (List.mem_of_getElem? (i := 5) rfl)) (ty := .long) (by decide) rfl rfl (g := (mkF m 18 #[.val (.ref o0), .val (.long key), .second, .val (.int hzv)] [(.long (0 : Int64)), (.ref o0)])) rfl rfl (hb hby d14_18)
    have Fw11 := F9.same W11
    have N11 := Fr.snoc X11 N7 geo
    have Z11 : n0 ≤ h11.size := Nat.le_trans Z7 (wr_le W11)
    have K11 := Keep.wr K7 W11 (Or.inl wtb)
    refine OFin.go st11 ?_
    show OFin p e below _ (T11.setTop (mkF m 21 #[.val (.ref o0), .val (.long key), .second, .val (.int hzv)] []))
    have S12 : ∀ t, Steps p.tables e below (T11.setTop (mkF m 35 #[.val (.ref o0), .val (.long key), .second, .val (.int hzv)] [(.int hzv)])) t → Steps p.tables e below (T11.setTop (mkF m 21 #[.val (.ref o0), .val (.long key), .second, .val (.int hzv)] [])) t := by
      intro t k
      show Steps p.tables e below (T11.setTop (mkF m 21 #[.val (.ref o0), .val (.long key), .second, .val (.int hzv)] [])) t
      refine XS.goto X11.here hx rfl (pc0 := 21) (pc' := 34) rfl (hb hby d14_21) (by decide) (by decide) ?_
      show Steps p.tables e below (T11.setTop (mkF m 34 #[.val (.ref o0), .val (.long key), .second, .val (.int hzv)] [])) t
      refine XS.iloadN X11.here hx rfl (hb hby d14_34) rfl ?_
      exact k
    refine OFin.go S12 ?_
    by_cases h13 : (hzv = (0 : Int32))
    · -- pc 35: (hzv = (0 : Int32))
      have S14 : ∀ t, Steps p.tables e below (T11.setTop (mkF m 48 #[.val (.ref o0), .val (.long key), .second, .val (.int hzv)] [])) t → Steps p.tables e below (T11.setTop (mkF m 35 #[.val (.ref o0), .val (.long key), .second, .val (.int hzv)] [(.int hzv)])) t := by
        intro t k
        show Steps p.tables e below (T11.setTop (mkF m 35 #[.val (.ref o0), .val (.long key), .second, .val (.int hzv)] [(.int hzv)])) t
        refine XS.ifYes X11.here hx rfl (pc0 := 35) (pc' := 48) rfl (hb hby d14_35) rfl ((if0 _ _).trans (teq h13).1) (by decide) (by decide) ?_
        exact k
      refine OFin.go S14 ?_
      have S15 : ∀ t, Steps p.tables e below (T11.setTop (mkF m 49 #[.val (.ref o0), .val (.long key), .second, .val (.int hzv)] [(.int hzv)])) t → Steps p.tables e below (T11.setTop (mkF m 48 #[.val (.ref o0), .val (.long key), .second, .val (.int hzv)] [])) t := by
        intro t k
        show Steps p.tables e below (T11.setTop (mkF m 48 #[.val (.ref o0), .val (.long key), .second, .val (.int hzv)] [])) t
        refine XS.iloadN X11.here hx rfl (hb hby d14_48) rfl ?_
        exact k
      refine OFin.go S15 ?_
      have F16 := F10.wr W11
      have F17 := Fp.other W7 (Or.inr (slot_ne (Or.inr (hw _ (List.mem_of_getElem? (i := 16) rfl))) (Or.inl (hw _ (List.mem_of_getElem? (i := 97) rfl))) (by decide) (t := (.array (.object "com/example/clockwrap/clockwrap/store/LongTable$Part"))) (t' := .boolean) (by decide) (by decide)))
      have F18 := F17.other W11 (Or.inr (slot_ne (Or.inr (hw _ (List.mem_of_getElem? (i := 16) rfl))) (Or.inl (hw _ (List.mem_of_getElem? (i := 99) rfl))) (by decide) (t := (.array (.object "com/example/clockwrap/clockwrap/store/LongTable$Part"))) (t' := .long) (by decide) (by decide)))
      have F19 := Fs.other W7 (Or.inr (slot_ne (Or.inl (hw _ (List.mem_of_getElem? (i := 67) rfl))) (Or.inl (hw _ (List.mem_of_getElem? (i := 97) rfl))) (by decide) (t := .int) (t' := .boolean) (by decide) (by decide)))
      have F20 := F19.other W11 (Or.inr (slot_ne (Or.inl (hw _ (List.mem_of_getElem? (i := 67) rfl))) (Or.inl (hw _ (List.mem_of_getElem? (i := 99) rfl))) (by decide) (t := .int) (t' := .long) (by decide) (by decide)))
      have F21 := Fw7.other W11 (Or.inr (slot_ne (Or.inl (hw _ (List.mem_of_getElem? (i := 97) rfl))) (Or.inl (hw _ (List.mem_of_getElem? (i := 99) rfl))) (by decide) (t := .boolean) (t' := .long) (by decide) (by decide)))
      have F22 := Vp.other W7 (Ne.symm nop)
      have F23 := F22.other W11 (Ne.symm nop)
      have F24 := FAM.keep hFM (Keep.of_wr W7) (allS (Or.inl rfl) all0)
      have F25 := FAM.keep F24 (Keep.of_wr W11) (allS (Or.inl rfl) all0)
      have F26 := Nat.le_trans hzl (wr_le W7)
      have F27 := Nat.le_trans F26 (wr_le W11)
      exact finZ X11 hx Bd.notSynchronized (t := .boolean) Bd.returns (by simp) (hb hby d14_49) rfl (by decide) (by decide) (by rw [e11]; exact ⟨_, Wl, rfl, N11, K11, ⟨pr, pa, FF, KK, VV, TT, 0, _, 0, zz, F16, F18, F20, F21, Fw11, F23, FAM.mono F25 (Nat.le_succ _), F27, nop, geo, ⟨wtb, wpr, wF, wW⟩, Or.inr rfl, fun _ => rfl, fun k v q => ((remM_l key).2 M k v (fun r => q (r.trans h2))).trans (hM k v q), own_rem0 h2⟩, fun x q => Or.inl q⟩)
    · -- pc 35: not (hzv = (0 : Int32))
      have S28 : ∀ t, Steps p.tables e below (T11.setTop (mkF m 38 #[.val (.ref o0), .val (.long key), .second, .val (.int hzv)] [])) t → Steps p.tables e below (T11.setTop (mkF m 35 #[.val (.ref o0), .val (.long key), .second, .val (.int hzv)] [(.int hzv)])) t := by
        intro t k
        show Steps p.tables e below (T11.setTop (mkF m 35 #[.val (.ref o0), .val (.long key), .second, .val (.int hzv)] [(.int hzv)])) t
        refine XS.ifNo X11.here hx rfl (hb hby d14_35) rfl ((if0 _ _).trans (feq h13).1) ?_
        exact k
      refine OFin.go S28 ?_
      have S29 : ∀ t, Steps p.tables e below (T11.setTop (mkF m 40 #[.val (.ref o0), .val (.long key), .second, .val (.int hzv)] [(.ref o0), (.ref o0)])) t → Steps p.tables e below (T11.setTop (mkF m 38 #[.val (.ref o0), .val (.long key), .second, .val (.int hzv)] [])) t := by
        intro t k
        show Steps p.tables e below (T11.setTop (mkF m 38 #[.val (.ref o0), .val (.long key), .second, .val (.int hzv)] [])) t
        refine XS.aloadN X11.here hx rfl (hb hby d14_38) rfl rfl ?_
        show Steps p.tables e below (T11.setTop (mkF m 39 #[.val (.ref o0), .val (.long key), .second, .val (.int hzv)] [(.ref o0)])) t
        refine XS.dup X11.here hx rfl (hb hby d14_39) rfl rfl ?_
        exact k
      refine OFin.go S29 ?_
      have F30 := Fs.other W7 (Or.inr (slot_ne (Or.inl (hw _ (List.mem_of_getElem? (i := 67) rfl))) (Or.inl (hw _ (List.mem_of_getElem? (i := 97) rfl))) (by decide) (t := .int) (t' := .boolean) (by decide) (by decide)))
      have F31 := F30.other W11 (Or.inr (slot_ne (Or.inl (hw _ (List.mem_of_getElem? (i := 67) rfl))) (Or.inl (hw _ (List.mem_of_getElem? (i := 99) rfl))) (by decide) (t := .int) (t' := .long) (by decide) (by decide)))
      obtain ⟨T32, X32, e32, st32⟩ := getF X11 hx hZ hown (host := "") (Or.inl (hw _ (List.mem_of_getElem? (i := 66) rfl))) Via.refl e11 F31 (g := (mkF m 40 #[.val (.ref o0), .val (.long key), .second, .val (.int hzv)] [(.ref o0), (.ref o0)])) rfl rfl (hb hby d14_40)
      refine OFin.go st32 ?_
      show OFin p e below _ (T32.setTop (mkF m 43 #[.val (.ref o0), .val (.long key), .second, .val (.int hzv)] [(.int szv), (.ref o0)]))
      have S33 : ∀ t, Steps p.tables e below (T32.setTop (mkF m 45 #[.val (.ref o0), .val (.long key), .second, .val (.int hzv)] [(.int (szv - (1 : Int32))), (.ref o0)])) t → Steps p.tables e below (T32.setTop (mkF m 43 #[.val (.ref o0), .val (.long key), .second, .val (.int hzv)] [(.int szv), (.ref o0)])) t := by
        intro t k
        show Steps p.tables e below (T32.setTop (mkF m 43 #[.val (.ref o0), .val (.long key), .second, .val (.int hzv)] [(.int szv), (.ref o0)])) t
        refine XS.iconst X32.here hx rfl (hb hby d14_43) ?_
        show Steps p.tables e below (T32.setTop (mkF m 44 #[.val (.ref o0), .val (.long key), .second, .val (.int hzv)] [(.int (1 : Int32)), (.int szv), (.ref o0)])) t
        refine XS.isub X32.here hx rfl (hb hby d14_44) rfl ?_
        exact k
      refine OFin.go S33 ?_
      have F34 := F10.wr W11
      obtain ⟨T35, h35, X35, e35, W35, st35⟩ := putF X32 hx hZ hown (host := "") (Or.inl (hw _ (List.mem_of_getElem? (i := 66) rfl))) Via.refl e32 F31 F34 (Or.inl (hw _ (List.mem_of_getElem? (i := 67) rfl))) (hw _ (List.mem_of_getElem? (i := 5) rfl)) (ty := .int) (by decide) rfl rfl (g := (mkF m 45 #[.val (.ref o0), .val (.long key), .second, .val (.int hzv)] [(.int (szv - (1 : Int32))), (.ref o0)])) rfl rfl (hb hby d14_45)
      have Fw35 := F31.same W35
      have N35 := Fr.snoc X35 N11 geo
      have Z35 : n0 ≤ h35.size := Nat.le_trans Z11 (wr_le W35)
      have K35 := Keep.wr K11 W35 (Or.inl wtb)
      refine OFin.go st35 ?_
      show OFin p e below _ (T35.setTop (mkF m 48 #[.val (.ref o0), .val (.long key), .second, .val (.int hzv)] []))
      have S36 : ∀ t, Steps p.tables e below (T35.setTop (mkF m 49 #[.val (.ref o0), .val (.long key), .second, .val (.int hzv)] [(.int hzv)])) t → Steps p.tables e below (T35.setTop (mkF m 48 #[.val (.ref o0), .val (.long key), .second, .val (.int hzv)] [])) t := by
        intro t k
        show Steps p.tables e below (T35.setTop (mkF m 48 #[.val (.ref o0), .val (.long key), .second, .val (.int hzv)] [])) t
        refine XS.iloadN X35.here hx rfl (hb hby d14_48) rfl ?_
        exact k
      refine OFin.go S36 ?_
      have F37 := F34.wr W35
      have F38 := Fp.other W7 (Or.inr (slot_ne (Or.inr (hw _ (List.mem_of_getElem? (i := 16) rfl))) (Or.inl (hw _ (List.mem_of_getElem? (i := 97) rfl))) (by decide) (t := (.array (.object "com/example/clockwrap/clockwrap/store/LongTable$Part"))) (t' := .boolean) (by decide) (by decide)))
      have F39 := F38.other W11 (Or.inr (slot_ne (Or.inr (hw _ (List.mem_of_getElem? (i := 16) rfl))) (Or.inl (hw _ (List.mem_of_getElem? (i := 99) rfl))) (by decide) (t := (.array (.object "com/example/clockwrap/clockwrap/store/LongTable$Part"))) (t' := .long) (by decide) (by decide)))
      have F40 := F39.other W35 (Or.inr (slot_ne (Or.inr (hw _ (List.mem_of_getElem? (i := 16) rfl))) (Or.inl (hw _ (List.mem_of_getElem? (i := 67) rfl))) (by decide) (t := (.array (.object "com/example/clockwrap/clockwrap/store/LongTable$Part"))) (t' := .int) (by decide) (by decide)))
      have F41 := Fw7.other W11 (Or.inr (slot_ne (Or.inl (hw _ (List.mem_of_getElem? (i := 97) rfl))) (Or.inl (hw _ (List.mem_of_getElem? (i := 99) rfl))) (by decide) (t := .boolean) (t' := .long) (by decide) (by decide)))
      have F42 := F41.other W35 (Or.inr (slot_ne (Or.inl (hw _ (List.mem_of_getElem? (i := 97) rfl))) (Or.inl (hw _ (List.mem_of_getElem? (i := 67) rfl))) (by decide) (t := .boolean) (t' := .int) (by decide) (by decide)))
      have F43 := Fw11.other W35 (Or.inr (slot_ne (Or.inl (hw _ (List.mem_of_getElem? (i := 99) rfl))) (Or.inl (hw _ (List.mem_of_getElem? (i := 67) rfl))) (by decide) (t := .long) (t' := .int) (by decide) (by decide)))
      have F44 := Vp.other W7 (Ne.symm nop)
      have F45 := F44.other W11 (Ne.symm nop)
      have F46 := F45.other W35 (Ne.symm nop)
      have F47 := FAM.keep hFM (Keep.of_wr W7) (allS (Or.inl rfl) all0)
      have F48 := FAM.keep F47 (Keep.of_wr W11) (allS (Or.inl rfl) all0)
      have F49 := FAM.keep F48 (Keep.of_wr W35) (allS (Or.inl rfl) all0)
      have F50 := Nat.le_trans hzl (wr_le W7)
      have F51 := Nat.le_trans F50 (wr_le W11)
      have F52 := Nat.le_trans F51 (wr_le W35)
      exact finZ X35 hx Bd.notSynchronized (t := .boolean) Bd.returns (by simp) (hb hby d14_49) rfl (by decide) (by decide) (by rw [e35]; exact ⟨_, Wl, rfl, N35, K35, ⟨pr, pa, FF, KK, VV, TT, 0, _, 0, zz, F37, F40, Fw35, F42, F43, F46, FAM.mono F49 (Nat.le_succ _), F52, nop, geo, ⟨wtb, wpr, wF, wW⟩, Or.inr rfl, fun _ => rfl, fun k v q => ((remM_l key).2 M k v (fun r => q (r.trans h2))).trans (hM k v q), own_rem0 h2⟩, fun x q => Or.inl q⟩)
  · -- pc 3: not (key = (0 : Int64))
    have S53 : ∀ t, Steps p.tables e below (s₁.setTop (mkF m 24 #[.val (.ref o0), .val (.long key), .second, .unset] [])) t → Steps p.tables e below (s₁.setTop (mkF m 3 #[.val (.ref o0), .val (.long key), .second, .unset] [(.int (lcmpW key (0 : Int64)))])) t := by
      intro t k
      show Steps p.tables e below (s₁.setTop (mkF m 3 #[.val (.ref o0), .val (.long key), .second, .unset] [(.int (lcmpW key (0 : Int64)))])) t
      refine XS.ifYes X0.here hx rfl (pc0 := 3) (pc' := 24) rfl (hb hby d14_3) rfl (lc_ne_t h2) (by decide) (by decide) ?_
      exact k
    refine OFin.go S53 ?_
    have S54 : ∀ t, Steps p.tables e below (s₁.setTop (mkF m 26 #[.val (.ref o0), .val (.long key), .second, .unset] [(.long key), (.ref o0)])) t → Steps p.tables e below (s₁.setTop (mkF m 24 #[.val (.ref o0), .val (.long key), .second, .unset] [])) t := by
      intro t k
      show Steps p.tables e below (s₁.setTop (mkF m 24 #[.val (.ref o0), .val (.long key), .second, .unset] [])) t
      refine XS.aloadN X0.here hx rfl (hb hby d14_24) rfl rfl ?_
      show Steps p.tables e below (s₁.setTop (mkF m 25 #[.val (.ref o0), .val (.long key), .second, .unset] [(.ref o0)])) t
      refine XS.lloadN X0.here hx rfl (hb hby d14_25) rfl ?_
      exact k
    refine OFin.go S54 ?_
    obtain ⟨_, T55, Lc55, X55, hQ55, st55⟩ := privQ X0 hx hZ (y := (⟨"com/example/clockwrap/clockwrap/store/LongTable", "part", "(J)Lcom/example/clockwrap/clockwrap/store/LongTable$Part;"⟩ : MethodName)) hown (hw _ (List.mem_of_getElem? (i := 39) rfl)) (hw _ (List.mem_of_getElem? (i := 40) rfl)) (hw _ (List.mem_of_getElem? (i := 6) rfl)) (hw _ (List.mem_of_getElem? (i := 42) rfl)) (hw _ (List.mem_of_getElem? (i := 41) rfl)) (hw _ (List.mem_of_getElem? (i := 5) rfl)) (by decide) E0 (argsL := [(.long key)]) (rest := []) (rm6 l Z a0 hw [] o0 key pr pa h0 n0 Z0 Fp Vp) (W := 0) (by decide) (by decide) e0 (g := (mkF m 26 #[.val (.ref o0), .val (.long key), .second, .unset] [(.long key), (.ref o0)])) rfl (by rw [hml]; rfl) (lenOf pd_5 rfl) rfl (by show 2 * 0 + _ ≤ _; exact Nat.le_of_eq rfl) (hb hby d14_26) (Nat.le_of_ble_eq_true rfl) (Nat.le_of_ble_eq_true rfl)
    obtain ⟨rfl, N55q, e55⟩ := hQ55
    have N55 := Fr.app N0 N55q
    refine OFin.go st55 ?_
    show OFin p e below _ (T55.setTop (mkF m 29 #[.val (.ref o0), .val (.long key), .second, .unset] [(.ref (pa (ix key)))]))
    have S56 : ∀ t, Steps p.tables e below (T55.setTop (mkF m 30 #[.val (.ref o0), .val (.long key), .second, .unset] [(.long key), (.ref (pa (ix key)))])) t → Steps p.tables e below (T55.setTop (mkF m 29 #[.val (.ref o0), .val (.long key), .second, .unset] [(.ref (pa (ix key)))])) t := by
      intro t k
      show Steps p.tables e below (T55.setTop (mkF m 29 #[.val (.ref o0), .val (.long key), .second, .unset] [(.ref (pa (ix key)))])) t
      refine XS.lloadN X55.here hx rfl (hb hby d14_29) rfl ?_
      exact k
    refine OFin.go S56 ?_
    obtain ⟨_, T57, Lc57, X57, hQ57, st57⟩ := virtQ X55 hx hZ (y := (⟨"com/example/clockwrap/clockwrap/store/LongTable$Part", "remove", "(J)Z"⟩ : MethodName)) hown (hw _ (List.mem_of_getElem? (i := 87) rfl)) (hw _ (List.mem_of_getElem? (i := 89) rfl)) (hw _ (List.mem_of_getElem? (i := 18) rfl)) (hw _ (List.mem_of_getElem? (i := 91) rfl)) (hw _ (List.mem_of_getElem? (i := 88) rfl)) (hw _ (List.mem_of_getElem? (i := 90) rfl)) (by decide) (hFM.1 _ (ix_lt key)).1.exa (argsL := [(.long key)]) (rest := []) (p_remove l Z a0 hw (pa (ix key)) key (FF (ix key)) (KK (ix key)) (VV (ix key)) (TT (ix key)) mm h0 n0 Z0 (hFM.1 _ (ix_lt key)).1 (fun x q => ((hFM.1 _ (ix_lt key)).2.2 x q).1) (hFM.1 _ (ix_lt key)).2.1 hmm h2) (W := 0) (by decide) (by decide) e55 (g := (mkF m 30 #[.val (.ref o0), .val (.long key), .second, .unset] [(.long key), (.ref (pa (ix key)))])) rfl (by rw [hml]; rfl) (lenOf pd_6 rfl) rfl (by show 2 * 0 + _ ≤ _; exact Nat.le_of_eq rfl) (hb hby d14_30) (Nat.le_of_ble_eq_true rfl) (Nat.le_of_ble_eq_true rfl)
    obtain ⟨bb, F', kf', vf', tk', rfl, N57q, K57q, hT', hs', hP', hR'⟩ := hQ57
    have Z57 : n0 ≤ T57.heap.size := Nat.le_trans Z0 K57q.1
    obtain ⟨M57, wU, hsb⟩ := own_B hFM (ix_lt key) hzl E0.lt Vp.lt Z0 K57q hT' hs' hP' wtb wpr wF wW
    have K57 := Keep.trans K0 K57q (fun x q => Or.inl (wF _ (ix_lt key) x q))
    have N57 := Fr.app N55 N57q
    refine OFin.go st57 ?_
    show OFin p e below _ (T57.setTop (mkF m 33 #[.val (.ref o0), .val (.long key), .second, .unset] [(.int bb)]))
    have S58 : ∀ t, Steps p.tables e below (T57.setTop (mkF m 35 #[.val (.ref o0), .val (.long key), .second, .val (.int bb)] [(.int bb)])) t → Steps p.tables e below (T57.setTop (mkF m 33 #[.val (.ref o0), .val (.long key), .second, .unset] [(.int bb)])) t := by
      intro t k
      show Steps p.tables e below (T57.setTop (mkF m 33 #[.val (.ref o0), .val (.long key), .second, .unset] [(.int bb)])) t
      refine XS.istoreN X57.here hx rfl (hb hby d14_33) rfl (l' := #[.val (.ref o0), .val (.long key), .second, .val (.int bb)]) rfl ?_
      show Steps p.tables e below (T57.setTop (mkF m 34 #[.val (.ref o0), .val (.long key), .second, .val (.int bb)] [])) t
      refine XS.iloadN X57.here hx rfl (hb hby d14_34) rfl ?_
      exact k
    refine OFin.go S58 ?_
    by_cases h59 : (bb = (0 : Int32))
    · -- pc 35: (bb = (0 : Int32))
      have S60 : ∀ t, Steps p.tables e below (T57.setTop (mkF m 48 #[.val (.ref o0), .val (.long key), .second, .val (.int bb)] [])) t → Steps p.tables e below (T57.setTop (mkF m 35 #[.val (.ref o0), .val (.long key), .second, .val (.int bb)] [(.int bb)])) t := by
        intro t k
        show Steps p.tables e below (T57.setTop (mkF m 35 #[.val (.ref o0), .val (.long key), .second, .val (.int bb)] [(.int bb)])) t
        refine XS.ifYes X57.here hx rfl (pc0 := 35) (pc' := 48) rfl (hb hby d14_35) rfl ((if0 _ _).trans (teq h59).1) (by decide) (by decide) ?_
        exact k
      refine OFin.go S60 ?_
      have S61 : ∀ t, Steps p.tables e below (T57.setTop (mkF m 49 #[.val (.ref o0), .val (.long key), .second, .val (.int bb)] [(.int bb)])) t → Steps p.tables e below (T57.setTop (mkF m 48 #[.val (.ref o0), .val (.long key), .second, .val (.int bb)] [])) t := by
        intro t k
        show Steps p.tables e below (T57.setTop (mkF m 48 #[.val (.ref o0), .val (.long key), .second, .val (.int bb)] [])) t
        refine XS.iloadN X57.here hx rfl (hb hby d14_48) rfl ?_
        exact k
      refine OFin.go S61 ?_
      have F62 := E0.keep K57q
      have F63 := Fp.keep K57q (fun q => ((hFM.1 _ (ix_lt key)).2.2 _ q).2.2.1 rfl)
      have F64 := Fs.keep K57q (fun q => ((hFM.1 _ (ix_lt key)).2.2 _ q).2.2.1 rfl)
      have F65 := Fh.keep K57q (fun q => ((hFM.1 _ (ix_lt key)).2.2 _ q).2.2.1 rfl)
      have F66 := Fz.keep K57q (fun q => ((hFM.1 _ (ix_lt key)).2.2 _ q).2.2.1 rfl)
      have F67 := Vp.keep K57q (fun q => ((hFM.1 _ (ix_lt key)).2.2 _ q).2.2.2 rfl)
      exact finZ X57 hx Bd.notSynchronized (t := .boolean) Bd.returns (by simp) (hb hby d14_49) rfl (by decide) (by decide) (by exact ⟨_, Wl ++ F', rfl, N57, K57, ⟨pr, pa, upd FF (ix key) F', upd KK (ix key) kf', upd VV (ix key) vf', upd TT (ix key) tk', hzv, _, zvv, _, F62, F63, F64, F65, F66, F67, M57, (Nat.le_refl T57.heap.size), nop, geo, wU, hz01, hz0, own_rel hM h2 (remM_l key) hR', fun v => ((remM_l key).2 M 0 v (fun r => h2 r.symm)).trans (hM0 v)⟩, hsb⟩)
    · -- pc 35: not (bb = (0 : Int32))
      have S68 : ∀ t, Steps p.tables e below (T57.setTop (mkF m 38 #[.val (.ref o0), .val (.long key), .second, .val (.int bb)] [])) t → Steps p.tables e below (T57.setTop (mkF m 35 #[.val (.ref o0), .val (.long key), .second, .val (.int bb)] [(.int bb)])) t := by
        intro t k
        show Steps p.tables e below (T57.setTop (mkF m 35 #[.val (.ref o0), .val (.long key), .second, .val (.int bb)] [(.int bb)])) t
        refine XS.ifNo X57.here hx rfl (hb hby d14_35) rfl ((if0 _ _).trans (feq h59).1) ?_
        exact k
      refine OFin.go S68 ?_
      have S69 : ∀ t, Steps p.tables e below (T57.setTop (mkF m 40 #[.val (.ref o0), .val (.long key), .second, .val (.int bb)] [(.ref o0), (.ref o0)])) t → Steps p.tables e below (T57.setTop (mkF m 38 #[.val (.ref o0), .val (.long key), .second, .val (.int bb)] [])) t := by
        intro t k
        show Steps p.tables e below (T57.setTop (mkF m 38 #[.val (.ref o0), .val (.long key), .second, .val (.int bb)] [])) t
        refine XS.aloadN X57.here hx rfl (hb hby d14_38) rfl rfl ?_
        show Steps p.tables e below (T57.setTop (mkF m 39 #[.val (.ref o0), .val (.long key), .second, .val (.int bb)] [(.ref o0)])) t
        refine XS.dup X57.here hx rfl (hb hby d14_39) rfl rfl ?_
        exact k
      refine OFin.go S69 ?_
      have F70 := Fs.keep K57q (fun q => ((hFM.1 _ (ix_lt key)).2.2 _ q).2.2.1 rfl)
      obtain ⟨T71, X71, e71, st71⟩ := getF X57 hx hZ hown (host := "") (Or.inl (hw _ (List.mem_of_getElem? (i := 66) rfl))) Via.refl rfl F70 (g := (mkF m 40 #[.val (.ref o0), .val (.long key), .second, .val (.int bb)] [(.ref o0), (.ref o0)])) rfl rfl (hb hby d14_40)
      refine OFin.go st71 ?_
      show OFin p e below _ (T71.setTop (mkF m 43 #[.val (.ref o0), .val (.long key), .second, .val (.int bb)] [(.int szv), (.ref o0)]))
      have S72 : ∀ t, Steps p.tables e below (T71.setTop (mkF m 45 #[.val (.ref o0), .val (.long key), .second, .val (.int bb)] [(.int (szv - (1 : Int32))), (.ref o0)])) t → Steps p.tables e below (T71.setTop (mkF m 43 #[.val (.ref o0), .val (.long key), .second, .val (.int bb)] [(.int szv), (.ref o0)])) t := by
        intro t k
        show Steps p.tables e below (T71.setTop (mkF m 43 #[.val (.ref o0), .val (.long key), .second, .val (.int bb)] [(.int szv), (.ref o0)])) t
        refine XS.iconst X71.here hx rfl (hb hby d14_43) ?_
        show Steps p.tables e below (T71.setTop (mkF m 44 #[.val (.ref o0), .val (.long key), .second, .val (.int bb)] [(.int (1 : Int32)), (.int szv), (.ref o0)])) t
        refine XS.isub X71.here hx rfl (hb hby d14_44) rfl ?_
        exact k
      refine OFin.go S72 ?_
      have F73 := E0.keep K57q
      obtain ⟨T74, h74, X74, e74, W74, st74⟩ := putF X71 hx hZ hown (host := "") (Or.inl (hw _ (List.mem_of_getElem? (i := 66) rfl))) Via.refl e71 F70 F73 (Or.inl (hw _ (List.mem_of_getElem? (i := 67) rfl))) (hw _ (List.mem_of_getElem? (i := 5) rfl)) (ty := .int) (by decide) rfl rfl (g := (mkF m 45 #[.val (.ref o0), .val (.long key), .second, .val (.int bb)] [(.int (szv - (1 : Int32))), (.ref o0)])) rfl rfl (hb hby d14_45)
      have Fw74 := F70.same W74
      have N74 := Fr.snoc X74 N57 geo
      have Z74 : n0 ≤ h74.size := Nat.le_trans Z57 (wr_le W74)
      have K74 := Keep.wr K57 W74 (Or.inl wtb)
      refine OFin.go st74 ?_
      show OFin p e below _ (T74.setTop (mkF m 48 #[.val (.ref o0), .val (.long key), .second, .val (.int bb)] []))
      have S75 : ∀ t, Steps p.tables e below (T74.setTop (mkF m 49 #[.val (.ref o0), .val (.long key), .second, .val (.int bb)] [(.int bb)])) t → Steps p.tables e below (T74.setTop (mkF m 48 #[.val (.ref o0), .val (.long key), .second, .val (.int bb)] [])) t := by
        intro t k
        show Steps p.tables e below (T74.setTop (mkF m 48 #[.val (.ref o0), .val (.long key), .second, .val (.int bb)] [])) t
        refine XS.iloadN X74.here hx rfl (hb hby d14_48) rfl ?_
        exact k
      refine OFin.go S75 ?_
      have F76 := F73.wr W74
      have F77 := Fp.keep K57q (fun q => ((hFM.1 _ (ix_lt key)).2.2 _ q).2.2.1 rfl)
      have F78 := F77.other W74 (Or.inr (slot_ne (Or.inr (hw _ (List.mem_of_getElem? (i := 16) rfl))) (Or.inl (hw _ (List.mem_of_getElem? (i := 67) rfl))) (by decide) (t := (.array (.object "com/example/clockwrap/clockwrap/store/LongTable$Part"))) (t' := .int) (by decide) (by decide)))
      have F79 := Fh.keep K57q (fun q => ((hFM.1 _ (ix_lt key)).2.2 _ q).2.2.1 rfl)
      have F80 := F79.other W74 (Or.inr (slot_ne (Or.inl (hw _ (List.mem_of_getElem? (i := 97) rfl))) (Or.inl (hw _ (List.mem_of_getElem? (i := 67) rfl))) (by decide) (t := .boolean) (t' := .int) (by decide) (by decide)))
      have F81 := Fz.keep K57q (fun q => ((hFM.1 _ (ix_lt key)).2.2 _ q).2.2.1 rfl)
      have F82 := F81.other W74 (Or.inr (slot_ne (Or.inl (hw _ (List.mem_of_getElem? (i := 99) rfl))) (Or.inl (hw _ (List.mem_of_getElem? (i := 67) rfl))) (by decide) (t := .long) (t' := .int) (by decide) (by decide)))
      have F83 := Vp.keep K57q (fun q => ((hFM.1 _ (ix_lt key)).2.2 _ q).2.2.2 rfl)
      have F84 := F83.other W74 (Ne.symm nop)
      have F85 := FAM.keep M57 (Keep.of_wr W74) (allS (Or.inl rfl) all0)
      have F86 := Nat.le_trans (Nat.le_refl T57.heap.size) (wr_le W74)
      exact finZ X74 hx Bd.notSynchronized (t := .boolean) Bd.returns (by simp) (hb hby d14_49) rfl (by decide) (by decide) (by rw [e74]; exact ⟨_, Wl ++ F', rfl, N74, K74, ⟨pr, pa, upd FF (ix key) F', upd KK (ix key) kf', upd VV (ix key) vf', upd TT (ix key) tk', hzv, _, zvv, _, F76, F78, Fw74, F80, F82, F84, F85, F86, nop, geo, wU, hz01, hz0, own_rel hM h2 (remM_l key) hR', fun v => ((remM_l key).2 M 0 v (fun r => h2 r.symm)).trans (hM0 v)⟩, hsb⟩)
theorem own_at0 {M : Int64 → Int64 → Prop} {key w : Int64} (h : key = 0) (q : M 0 w) : M key w := by rw [h]; exact q
theorem own_to0 {M : Int64 → Int64 → Prop} {key w : Int64} (h : key = 0) (q : M key w) : M 0 w := by rw [← h]; exact q
theorem ef_rm11 (m : MethodId) (o0 : Addr) (key : Int64) : entryFrame m #[(.ref o0), (.long key)] 3 = mkF m 0 #[.val (.ref o0), .val (.long key), .second] [] := by first | (simp [entryFrame, mkF, argsToLocals, Value.category]; done) | rfl
def Q_rm11 (Z : State) (o0 : Addr) (key : Int64) (Wl : List Addr) (mm : Nat) (M : Int64 → Int64 → Prop) (h0 : Heap) (n0 : Nat) (v : Option Value) (h : Heap) (L : List Loc) : Prop := ∃ b : Int32, v = some (.int b) ∧ Fr n0 L ∧ h = h0 ∧ (b = 1 ∨ b = 0) ∧ (b = 1 ↔ ∃ w, M key w)
theorem d11_0 : decode prog_32_method_3_code 0 = .ok (.lload_n 1, 1) := by decide +kernel
theorem d11_1 : decode prog_32_method_3_code 1 = .ok (.lconst 0, 1) := by decide +kernel
theorem d11_2 : decode prog_32_method_3_code 2 = .ok (.lcmp, 1) := by decide +kernel
theorem d11_3 : decode prog_32_method_3_code 3 = .ok (.ifCond .ne 10, 3) := by decide +kernel
theorem d11_6 : decode prog_32_method_3_code 6 = .ok (.aload_n 0, 1) := by decide +kernel
theorem d11_7 : decode prog_32_method_3_code 7 = .ok (.getfield 20, 3) := by decide +kernel
theorem d11_10 : decode prog_32_method_3_code 10 = .ok (.goto 12, 3) := by decide +kernel
theorem d11_22 : decode prog_32_method_3_code 22 = .ok (.ireturn, 1) := by decide +kernel
theorem d11_13 : decode prog_32_method_3_code 13 = .ok (.aload_n 0, 1) := by decide +kernel
theorem d11_14 : decode prog_32_method_3_code 14 = .ok (.lload_n 1, 1) := by decide +kernel
theorem d11_15 : decode prog_32_method_3_code 15 = .ok (.invokevirtual 24, 3) := by decide +kernel
theorem d11_18 : decode prog_32_method_3_code 18 = .ok (.lload_n 1, 1) := by decide +kernel
theorem d11_19 : decode prog_32_method_3_code 19 = .ok (.invokevirtual 28, 3) := by decide +kernel
set_option maxRecDepth 65536 in
set_option maxHeartbeats 40000000 in
theorem rm11 (l : Launch) (Z : State) (a0 : Array Value) (hw : ∀ d ∈ tables_1, d.before a0 Z = true) (ws : List Jvm.Cond) (o0 : Addr) (key : Int64) (Wl : List Addr) (mm : Nat) (M : Int64 → Int64 → Prop) (h0 : Heap) (n0 : Nat) (Z0 : n0 ≤ h0.size) (hT : TBL Z h0 n0 o0 Wl mm M) (hmm : mm < 10) :
    MetFree l (⟨"com/example/clockwrap/clockwrap/store/LongTable", "contains", "(J)Z"⟩ : MethodName) (head1 (Jvm.Cond.code (⟨"com/example/clockwrap/clockwrap/store/LongTable", "contains", "(J)Z"⟩ : MethodName) prog_32_method_3_code 3 (some .boolean) :: ws) ({ frames := 3, cells := 0, slots := 0, locals := 60 } : Room)) (fun a U => a = #[(.ref o0), (.long key)] ∧ Z.Warmed39 U.vm ∧ U.heap = h0) (fun _ _ _ _ _ => True) (fun _ U o U' => ∃ v L, o = .returned v ∧ (Q_rm11 Z o0 key Wl mm M h0 n0) v U'.heap L ∧ FrameEnd U o U' L ({ frames := 3, cells := 0, slots := 0, locals := 60 } : Room).cells ({ frames := 3, cells := 0, slots := 0, locals := 60 } : Room).slots) := by
  refine MetFree.of_bodySF (plainFor_of_name pn_2) hisR ?_
  intro p e s m args below meth c s₁ Bd hml0 hP hK
  obtain ⟨rfl, hZ, hh⟩ := hP
  have hx := Bd.exec
  have hby := Bd.bytes
  have hml : c.maxLocals = 3 := hml0
  have hown : s.vm.findClass "com/example/clockwrap/clockwrap/store/LongTable" = some m.cls := findClass_of_methodNamed Bd.named
  have hnm := (name_of_methodNamed Bd.named Bd.method).1
  have X0 : Stand p l e ({ frames := 3, cells := 0, slots := 0, locals := 60 } : Room) s m #[(.ref o0), (.long key)] below meth c s₁ [] 0 0 := Stand.of_body Bd
  have e0 : s₁.heap = h0 := by rw [← hh, Bd.state]; rfl
  have N0 := Fr.nil n0
  show OFin p e below (ORet (Q_rm11 Z o0 key Wl mm M h0 n0) s ({ frames := 3, cells := 0, slots := 0, locals := 60 } : Room).cells ({ frames := 3, cells := 0, slots := 0, locals := 60 } : Room).slots) (s₁.setTop (entryFrame m #[(.ref o0), (.long key)] 3))
  refine OFin.go (fun t k => castTop (ef_rm11 m o0 key) k) ?_
  obtain ⟨pr, pa, FF, KK, VV, TT, hzv, szv, zvv, zz, E0, Fp, Fs, Fh, Fz, Vp, hFM, hzl, nop, geo, ⟨wtb, wpr, wF, wW⟩, hz01, hz0, hM, hM0⟩ := hT
  have K0 := Keep.refl h0 Wl
  show OFin p e below (ORet (Q_rm11 Z o0 key Wl mm M h0 n0) s ({ frames := 3, cells := 0, slots := 0, locals := 60 } : Room).cells ({ frames := 3, cells := 0, slots := 0, locals := 60 } : Room).slots) (s₁.setTop (mkF m 0 #[.val (.ref o0), .val (.long key), .second] []))
  have S1 : ∀ t, Steps p.tables e below (s₁.setTop (mkF m 3 #[.val (.ref o0), .val (.long key), .second] [(.int (lcmpW key (0 : Int64)))])) t → Steps p.tables e below (s₁.setTop (mkF m 0 #[.val (.ref o0), .val (.long key), .second] [])) t := by
    intro t k
    show Steps p.tables e below (s₁.setTop (mkF m 0 #[.val (.ref o0), .val (.long key), .second] [])) t
    refine XS.lloadN X0.here hx rfl (hb hby d11_0) rfl ?_
    show Steps p.tables e below (s₁.setTop (mkF m 1 #[.val (.ref o0), .val (.long key), .second] [(.long key)])) t
    refine XS.lconst X0.here hx rfl (hb hby d11_1) ?_
    show Steps p.tables e below (s₁.setTop (mkF m 2 #[.val (.ref o0), .val (.long key), .second] [(.long (0 : Int64)), (.long key)])) t
    refine XS.lcmp X0.here hx rfl (hb hby d11_2) rfl ?_
    exact k
  refine OFin.go S1 ?_
  by_cases h2 : (key = (0 : Int64))
  · -- pc 3: (key = (0 : Int64))
    have S3 : ∀ t, Steps p.tables e below (s₁.setTop (mkF m 6 #[.val (.ref o0), .val (.long key), .second] [])) t → Steps p.tables e below (s₁.setTop (mkF m 3 #[.val (.ref o0), .val (.long key), .second] [(.int (lcmpW key (0 : Int64)))])) t := by
      intro t k
      show Steps p.tables e below (s₁.setTop (mkF m 3 #[.val (.ref o0), .val (.long key), .second] [(.int (lcmpW key (0 : Int64)))])) t
      refine XS.ifNo X0.here hx rfl (hb hby d11_3) rfl (lc_ne_f h2) ?_
      exact k
    refine OFin.go S3 ?_
    have S4 : ∀ t, Steps p.tables e below (s₁.setTop (mkF m 7 #[.val (.ref o0), .val (.long key), .second] [(.ref o0)])) t → Steps p.tables e below (s₁.setTop (mkF m 6 #[.val (.ref o0), .val (.long key), .second] [])) t := by
      intro t k
      show Steps p.tables e below (s₁.setTop (mkF m 6 #[.val (.ref o0), .val (.long key), .second] [])) t
      refine XS.aloadN X0.here hx rfl (hb hby d11_6) rfl rfl ?_
      exact k
    refine OFin.go S4 ?_
    obtain ⟨T5, X5, e5, st5⟩ := getF X0 hx hZ hown (host := "") (Or.inl (hw _ (List.mem_of_getElem? (i := 96) rfl))) Via.refl e0 Fh (g := (mkF m 7 #[.val (.ref o0), .val (.long key), .second] [(.ref o0)])) rfl rfl (hb hby d11_7)
    refine OFin.go st5 ?_
    show OFin p e below _ (T5.setTop (mkF m 10 #[.val (.ref o0), .val (.long key), .second] [(.int hzv)]))
    have S6 : ∀ t, Steps p.tables e below (T5.setTop (mkF m 22 #[.val (.ref o0), .val (.long key), .second] [(.int hzv)])) t → Steps p.tables e below (T5.setTop (mkF m 10 #[.val (.ref o0), .val (.long key), .second] [(.int hzv)])) t := by
      intro t k
      show Steps p.tables e below (T5.setTop (mkF m 10 #[.val (.ref o0), .val (.long key), .second] [(.int hzv)])) t
      refine XS.goto X5.here hx rfl (pc0 := 10) (pc' := 22) rfl (hb hby d11_10) (by decide) (by decide) ?_
      exact k
    refine OFin.go S6 ?_
    exact finZ X5 hx Bd.notSynchronized (t := .boolean) Bd.returns (by simp) (hb hby d11_22) (by first | exact own_nar01 hb01 | exact own_nar01 hz01) (by decide) (by decide) (⟨hzv, rfl, N0, e5, hz01, ⟨fun q => ⟨zvv, own_at0 h2 ((hM0 _).mpr ⟨q, rfl⟩)⟩, fun ⟨w, q⟩ => ((hM0 w).mp (own_to0 h2 q)).1⟩⟩)
  · -- pc 3: not (key = (0 : Int64))
    have S7 : ∀ t, Steps p.tables e below (s₁.setTop (mkF m 13 #[.val (.ref o0), .val (.long key), .second] [])) t → Steps p.tables e below (s₁.setTop (mkF m 3 #[.val (.ref o0), .val (.long key), .second] [(.int (lcmpW key (0 : Int64)))])) t := by
      intro t k
      show Steps p.tables e below (s₁.setTop (mkF m 3 #[.val (.ref o0), .val (.long key), .second] [(.int (lcmpW key (0 : Int64)))])) t
      refine XS.ifYes X0.here hx rfl (pc0 := 3) (pc' := 13) rfl (hb hby d11_3) rfl (lc_ne_t h2) (by decide) (by decide) ?_
      exact k
    refine OFin.go S7 ?_
    have S8 : ∀ t, Steps p.tables e below (s₁.setTop (mkF m 15 #[.val (.ref o0), .val (.long key), .second] [(.long key), (.ref o0)])) t → Steps p.tables e below (s₁.setTop (mkF m 13 #[.val (.ref o0), .val (.long key), .second] [])) t := by
      intro t k
      show Steps p.tables e below (s₁.setTop (mkF m 13 #[.val (.ref o0), .val (.long key), .second] [])) t
      refine XS.aloadN X0.here hx rfl (hb hby d11_13) rfl rfl ?_
      show Steps p.tables e below (s₁.setTop (mkF m 14 #[.val (.ref o0), .val (.long key), .second] [(.ref o0)])) t
      refine XS.lloadN X0.here hx rfl (hb hby d11_14) rfl ?_
      exact k
    refine OFin.go S8 ?_
    obtain ⟨_, T9, Lc9, X9, hQ9, st9⟩ := privQ X0 hx hZ (y := (⟨"com/example/clockwrap/clockwrap/store/LongTable", "part", "(J)Lcom/example/clockwrap/clockwrap/store/LongTable$Part;"⟩ : MethodName)) hown (hw _ (List.mem_of_getElem? (i := 39) rfl)) (hw _ (List.mem_of_getElem? (i := 40) rfl)) (hw _ (List.mem_of_getElem? (i := 6) rfl)) (hw _ (List.mem_of_getElem? (i := 42) rfl)) (hw _ (List.mem_of_getElem? (i := 41) rfl)) (hw _ (List.mem_of_getElem? (i := 5) rfl)) (by decide) E0 (argsL := [(.long key)]) (rest := []) (rm6 l Z a0 hw [] o0 key pr pa h0 n0 Z0 Fp Vp) (W := 0) (by decide) (by decide) e0 (g := (mkF m 15 #[.val (.ref o0), .val (.long key), .second] [(.long key), (.ref o0)])) rfl (by rw [hml]; rfl) (lenOf pd_5 rfl) rfl (by show 2 * 0 + _ ≤ _; exact Nat.le_of_eq rfl) (hb hby d11_15) (Nat.le_of_ble_eq_true rfl) (Nat.le_of_ble_eq_true rfl)
    obtain ⟨rfl, N9q, e9⟩ := hQ9
    have N9 := Fr.app N0 N9q
    refine OFin.go st9 ?_
    show OFin p e below _ (T9.setTop (mkF m 18 #[.val (.ref o0), .val (.long key), .second] [(.ref (pa (ix key)))]))
    have S10 : ∀ t, Steps p.tables e below (T9.setTop (mkF m 19 #[.val (.ref o0), .val (.long key), .second] [(.long key), (.ref (pa (ix key)))])) t → Steps p.tables e below (T9.setTop (mkF m 18 #[.val (.ref o0), .val (.long key), .second] [(.ref (pa (ix key)))])) t := by
      intro t k
      show Steps p.tables e below (T9.setTop (mkF m 18 #[.val (.ref o0), .val (.long key), .second] [(.ref (pa (ix key)))])) t
      refine XS.lloadN X9.here hx rfl (hb hby d11_18) rfl ?_
      exact k
    refine OFin.go S10 ?_
    obtain ⟨_, T11, Lc11, X11, hQ11, st11⟩ := virtQ X9 hx hZ (y := (⟨"com/example/clockwrap/clockwrap/store/LongTable$Part", "contains", "(J)Z"⟩ : MethodName)) hown (hw _ (List.mem_of_getElem? (i := 73) rfl)) (hw _ (List.mem_of_getElem? (i := 75) rfl)) (hw _ (List.mem_of_getElem? (i := 18) rfl)) (hw _ (List.mem_of_getElem? (i := 77) rfl)) (hw _ (List.mem_of_getElem? (i := 74) rfl)) (hw _ (List.mem_of_getElem? (i := 76) rfl)) (by decide) (hFM.1 _ (ix_lt key)).1.exa (argsL := [(.long key)]) (rest := []) (p_contains l Z a0 hw (pa (ix key)) key (FF (ix key)) (KK (ix key)) (VV (ix key)) (TT (ix key)) mm h0 n0 Z0 (hFM.1 _ (ix_lt key)).1 (fun x q => ((hFM.1 _ (ix_lt key)).2.2 x q).1) (hFM.1 _ (ix_lt key)).2.1 hmm h2) (W := 0) (by decide) (by decide) e9 (g := (mkF m 19 #[.val (.ref o0), .val (.long key), .second] [(.long key), (.ref (pa (ix key)))])) rfl (by rw [hml]; rfl) (lenOf pd_6 rfl) rfl (by show 2 * 0 + _ ≤ _; exact Nat.le_of_eq rfl) (hb hby d11_19) (Nat.le_of_ble_eq_true rfl) (Nat.le_of_ble_eq_true rfl)
    obtain ⟨bb, rfl, N11q, e11, hb01, hbi⟩ := hQ11
    have N11 := Fr.app N9 N11q
    refine OFin.go st11 ?_
    show OFin p e below _ (T11.setTop (mkF m 22 #[.val (.ref o0), .val (.long key), .second] [(.int bb)]))
    exact finZ X11 hx Bd.notSynchronized (t := .boolean) Bd.returns (by simp) (hb hby d11_22) (by first | exact own_nar01 hb01 | exact own_nar01 hz01) (by decide) (by decide) (⟨bb, rfl, N11, e11, hb01, hbi.trans ⟨fun ⟨w, q⟩ => ⟨w, (hM key w h2).mpr q⟩, fun ⟨w, q⟩ => ⟨w, (hM key w h2).mp q⟩⟩⟩)
theorem d13_0 : decode method_3_code 0 = .ok (.lload_n 0, 1) := by decide +kernel
theorem d13_1 : decode method_3_code 1 = .ok (.lload_n 2, 1) := by decide +kernel
theorem d13_2 : decode method_3_code 2 = .ok (.lcmp, 1) := by decide +kernel
theorem d13_3 : decode method_3_code 3 = .ok (.ifCond .eq 17, 3) := by decide +kernel
theorem d13_20 : decode method_3_code 20 = .ok (.iconst 1, 1) := by decide +kernel
theorem d13_21 : decode method_3_code 21 = .ok (.goto 4, 3) := by decide +kernel
theorem d13_6 : decode method_3_code 6 = .ok (.lload_n 0, 1) := by decide +kernel
theorem d13_7 : decode method_3_code 7 = .ok (.lload 4, 2) := by decide +kernel
theorem d13_9 : decode method_3_code 9 = .ok (.lcmp, 1) := by decide +kernel
theorem d13_10 : decode method_3_code 10 = .ok (.ifCond .eq 10, 3) := by decide +kernel
theorem d13_13 : decode method_3_code 13 = .ok (.lload_n 0, 1) := by decide +kernel
theorem d13_14 : decode method_3_code 14 = .ok (.lload 6, 2) := by decide +kernel
theorem d13_16 : decode method_3_code 16 = .ok (.lcmp, 1) := by decide +kernel
theorem d13_17 : decode method_3_code 17 = .ok (.ifCond .ne 7, 3) := by decide +kernel
theorem d13_24 : decode method_3_code 24 = .ok (.iconst 0, 1) := by decide +kernel
theorem d13_25 : decode method_3_code 25 = .ok (.istore 11, 2) := by decide +kernel
theorem d13_27 : decode method_3_code 27 = .ok (.iload 11, 2) := by decide +kernel
theorem d13_29 : decode method_3_code 29 = .ok (.ifCond .eq 19, 3) := by decide +kernel
theorem d13_32 : decode method_3_code 32 = .ok (.iload 8, 2) := by decide +kernel
theorem d13_34 : decode method_3_code 34 = .ok (.ifCond .eq 10, 3) := by decide +kernel
theorem d13_44 : decode method_3_code 44 = .ok (.iconst 1, 1) := by decide +kernel
theorem d13_45 : decode method_3_code 45 = .ok (.goto 4, 3) := by decide +kernel
theorem d13_37 : decode method_3_code 37 = .ok (.lload_n 0, 1) := by decide +kernel
theorem d13_38 : decode method_3_code 38 = .ok (.lload 9, 2) := by decide +kernel
theorem d13_40 : decode method_3_code 40 = .ok (.lcmp, 1) := by decide +kernel
theorem d13_41 : decode method_3_code 41 = .ok (.ifCond .eq 7, 3) := by decide +kernel
theorem d13_48 : decode method_3_code 48 = .ok (.iconst 0, 1) := by decide +kernel
theorem d13_49 : decode method_3_code 49 = .ok (.ireturn, 1) := by decide +kernel
def modelF (kx : Int64) (k1 : Int64) (k2 : Int64) (k3 : Int64) (rmv : Int32) (rr : Int64) : Int32 := (bi (((kx = k1) ∨ ((kx = k2) ∨ (kx = k3))) ∧ ((rmv = (0 : Int32)) ∨ (¬ (kx = rr)))))
theorem ef_rm13 (m : MethodId) (kx : Int64) (k1 : Int64) (k2 : Int64) (k3 : Int64) (rmv : Int32) (rr : Int64) : entryFrame m #[(.long kx), (.long k1), (.long k2), (.long k3), (.int rmv), (.long rr)] 12 = mkF m 0 #[.val (.long kx), .second, .val (.long k1), .second, .val (.long k2), .second, .val (.long k3), .second, .val (.int rmv), .val (.long rr), .second, .unset] [] := by first | (simp [entryFrame, mkF, argsToLocals, Value.category]; done) | rfl
theorem pn_3 : plainName "com/example/clockwrap/clockwrap/store/LongTableContainsPinLaw" = true := by first | (simp [plainName, overriddenIn]; done) | decide +kernel
def Q_rm13 (Z : State) (kx : Int64) (k1 : Int64) (k2 : Int64) (k3 : Int64) (rmv : Int32) (rr : Int64)  (h0 : Heap) (n0 : Nat) (v : Option Value) (h : Heap) (L : List Loc) : Prop := v = some (Value.int (modelF kx k1 k2 k3 rmv rr)) ∧ Fr n0 L ∧ h = h0
set_option maxRecDepth 65536 in
set_option maxHeartbeats 40000000 in
theorem rm13 (l : Launch) (Z : State) (a0 : Array Value) (hw : ∀ d ∈ tables_1, d.before a0 Z = true) (ws : List Jvm.Cond) (kx : Int64) (k1 : Int64) (k2 : Int64) (k3 : Int64) (rmv : Int32) (rr : Int64)  (h0 : Heap) (n0 : Nat) (Z0 : n0 ≤ h0.size)  :
    MetFree l (⟨"com/example/clockwrap/clockwrap/store/LongTableContainsPinLaw", "model", "(JJJJZJ)Z"⟩ : MethodName) (head1 (Jvm.Cond.code (⟨"com/example/clockwrap/clockwrap/store/LongTableContainsPinLaw", "model", "(JJJJZJ)Z"⟩ : MethodName) method_3_code 12 (some .boolean) :: ws) ({ frames := 0, cells := 0, slots := 0, locals := 0 } : Room)) (fun a U => a = #[(.long kx), (.long k1), (.long k2), (.long k3), (.int rmv), (.long rr)] ∧ Z.Warmed39 U.vm ∧ U.heap = h0) (fun _ _ _ _ _ => True) (fun _ U o U' => ∃ v L, o = .returned v ∧ (Q_rm13 Z kx k1 k2 k3 rmv rr h0 n0) v U'.heap L ∧ FrameEnd U o U' L ({ frames := 0, cells := 0, slots := 0, locals := 0 } : Room).cells ({ frames := 0, cells := 0, slots := 0, locals := 0 } : Room).slots) := by
  refine MetFree.of_bodySF (plainFor_of_name pn_3) hisR ?_
  intro p e s m args below meth c s₁ Bd hml0 hP hK
  obtain ⟨rfl, hZ, hh⟩ := hP
  have hx := Bd.exec
  have hby := Bd.bytes
  have hml : c.maxLocals = 12 := hml0
  have hown : s.vm.findClass "com/example/clockwrap/clockwrap/store/LongTableContainsPinLaw" = some m.cls := findClass_of_methodNamed Bd.named
  have hnm := (name_of_methodNamed Bd.named Bd.method).1
  have X0 : Stand p l e ({ frames := 0, cells := 0, slots := 0, locals := 0 } : Room) s m #[(.long kx), (.long k1), (.long k2), (.long k3), (.int rmv), (.long rr)] below meth c s₁ [] 0 0 := Stand.of_body Bd
  have e0 : s₁.heap = h0 := by rw [← hh, Bd.state]; rfl
  have N0 := Fr.nil n0
  show OFin p e below (ORet (Q_rm13 Z kx k1 k2 k3 rmv rr h0 n0) s ({ frames := 0, cells := 0, slots := 0, locals := 0 } : Room).cells ({ frames := 0, cells := 0, slots := 0, locals := 0 } : Room).slots) (s₁.setTop (entryFrame m #[(.long kx), (.long k1), (.long k2), (.long k3), (.int rmv), (.long rr)] 12))
  refine OFin.go (fun t k => castTop (ef_rm13 m kx k1 k2 k3 rmv rr) k) ?_
  show OFin p e below (ORet (Q_rm13 Z kx k1 k2 k3 rmv rr h0 n0) s ({ frames := 0, cells := 0, slots := 0, locals := 0 } : Room).cells ({ frames := 0, cells := 0, slots := 0, locals := 0 } : Room).slots) (s₁.setTop (mkF m 0 #[.val (.long kx), .second, .val (.long k1), .second, .val (.long k2), .second, .val (.long k3), .second, .val (.int rmv), .val (.long rr), .second, .unset] []))
  have S1 : ∀ t, Steps p.tables e below (s₁.setTop (mkF m 3 #[.val (.long kx), .second, .val (.long k1), .second, .val (.long k2), .second, .val (.long k3), .second, .val (.int rmv), .val (.long rr), .second, .unset] [(.int (lcmpW kx k1))])) t → Steps p.tables e below (s₁.setTop (mkF m 0 #[.val (.long kx), .second, .val (.long k1), .second, .val (.long k2), .second, .val (.long k3), .second, .val (.int rmv), .val (.long rr), .second, .unset] [])) t := by
    intro t k
    show Steps p.tables e below (s₁.setTop (mkF m 0 #[.val (.long kx), .second, .val (.long k1), .second, .val (.long k2), .second, .val (.long k3), .second, .val (.int rmv), .val (.long rr), .second, .unset] [])) t
    refine XS.lloadN X0.here hx rfl (hb hby d13_0) rfl ?_
    show Steps p.tables e below (s₁.setTop (mkF m 1 #[.val (.long kx), .second, .val (.long k1), .second, .val (.long k2), .second, .val (.long k3), .second, .val (.int rmv), .val (.long rr), .second, .unset] [(.long kx)])) t
    refine XS.lloadN X0.here hx rfl (hb hby d13_1) rfl ?_
    show Steps p.tables e below (s₁.setTop (mkF m 2 #[.val (.long kx), .second, .val (.long k1), .second, .val (.long k2), .second, .val (.long k3), .second, .val (.int rmv), .val (.long rr), .second, .unset] [(.long k1), (.long kx)])) t
    refine XS.lcmp X0.here hx rfl (hb hby d13_2) rfl ?_
    exact k
  refine OFin.go S1 ?_
  have J2 : ∀ t, Steps p.tables e below (s₁.setTop (mkF m 25 #[.val (.long kx), .second, .val (.long k1), .second, .val (.long k2), .second, .val (.long k3), .second, .val (.int rmv), .val (.long rr), .second, .unset] [(.int (bi ((kx = k1) ∨ ((kx = k2) ∨ (kx = k3)))))])) t → Steps p.tables e below (s₁.setTop (mkF m 3 #[.val (.long kx), .second, .val (.long k1), .second, .val (.long k2), .second, .val (.long k3), .second, .val (.int rmv), .val (.long rr), .second, .unset] [(.int (lcmpW kx k1))])) t := by
    intro t k
    show Steps p.tables e below (s₁.setTop (mkF m 3 #[.val (.long kx), .second, .val (.long k1), .second, .val (.long k2), .second, .val (.long k3), .second, .val (.int rmv), .val (.long rr), .second, .unset] [(.int (lcmpW kx k1))])) t
    by_cases h3 : (kx = k1)
    · refine XS.ifYes X0.here hx rfl (pc0 := 3) (pc' := 20) rfl (hb hby d13_3) rfl (lc_eq_t h3) (by decide) (by decide) ?_
      show Steps p.tables e below (s₁.setTop (mkF m 20 #[.val (.long kx), .second, .val (.long k1), .second, .val (.long k2), .second, .val (.long k3), .second, .val (.int rmv), .val (.long rr), .second, .unset] [])) t
      refine XS.iconst X0.here hx rfl (hb hby d13_20) ?_
      show Steps p.tables e below (s₁.setTop (mkF m 21 #[.val (.long kx), .second, .val (.long k1), .second, .val (.long k2), .second, .val (.long k3), .second, .val (.int rmv), .val (.long rr), .second, .unset] [(.int (1 : Int32))])) t
      refine XS.goto X0.here hx rfl (pc0 := 21) (pc' := 25) rfl (hb hby d13_21) (by decide) (by decide) ?_
      show Steps p.tables e below (s₁.setTop (mkF m 25 #[.val (.long kx), .second, .val (.long k1), .second, .val (.long k2), .second, .val (.long k3), .second, .val (.int rmv), .val (.long rr), .second, .unset] [(.int (1 : Int32))])) t
      exact (castTop (congrArg (fun zq_ => (mkF m 25 #[.val (.long kx), .second, .val (.long k1), .second, .val (.long k2), .second, .val (.long k3), .second, .val (.int rmv), .val (.long rr), .second, .unset] [(.int zq_)])) (bi_t (Or.inl h3)).symm) k)
    · refine XS.ifNo X0.here hx rfl (hb hby d13_3) rfl (lc_eq_f h3) ?_
      show Steps p.tables e below (s₁.setTop (mkF m 6 #[.val (.long kx), .second, .val (.long k1), .second, .val (.long k2), .second, .val (.long k3), .second, .val (.int rmv), .val (.long rr), .second, .unset] [])) t
      refine XS.lloadN X0.here hx rfl (hb hby d13_6) rfl ?_
      show Steps p.tables e below (s₁.setTop (mkF m 7 #[.val (.long kx), .second, .val (.long k1), .second, .val (.long k2), .second, .val (.long k3), .second, .val (.int rmv), .val (.long rr), .second, .unset] [(.long kx)])) t
      refine XS.lload X0.here hx rfl (hb hby d13_7) rfl ?_
      show Steps p.tables e below (s₁.setTop (mkF m 9 #[.val (.long kx), .second, .val (.long k1), .second, .val (.long k2), .second, .val (.long k3), .second, .val (.int rmv), .val (.long rr), .second, .unset] [(.long k2), (.long kx)])) t
      refine XS.lcmp X0.here hx rfl (hb hby d13_9) rfl ?_
      show Steps p.tables e below (s₁.setTop (mkF m 10 #[.val (.long kx), .second, .val (.long k1), .second, .val (.long k2), .second, .val (.long k3), .second, .val (.int rmv), .val (.long rr), .second, .unset] [(.int (lcmpW kx k2))])) t
      by_cases h4 : (kx = k2)
      · refine XS.ifYes X0.here hx rfl (pc0 := 10) (pc' := 20) rfl (hb hby d13_10) rfl (lc_eq_t h4) (by decide) (by decide) ?_
        show Steps p.tables e below (s₁.setTop (mkF m 20 #[.val (.long kx), .second, .val (.long k1), .second, .val (.long k2), .second, .val (.long k3), .second, .val (.int rmv), .val (.long rr), .second, .unset] [])) t
        refine XS.iconst X0.here hx rfl (hb hby d13_20) ?_
        show Steps p.tables e below (s₁.setTop (mkF m 21 #[.val (.long kx), .second, .val (.long k1), .second, .val (.long k2), .second, .val (.long k3), .second, .val (.int rmv), .val (.long rr), .second, .unset] [(.int (1 : Int32))])) t
        refine XS.goto X0.here hx rfl (pc0 := 21) (pc' := 25) rfl (hb hby d13_21) (by decide) (by decide) ?_
        show Steps p.tables e below (s₁.setTop (mkF m 25 #[.val (.long kx), .second, .val (.long k1), .second, .val (.long k2), .second, .val (.long k3), .second, .val (.int rmv), .val (.long rr), .second, .unset] [(.int (1 : Int32))])) t
        exact (castTop (congrArg (fun zq_ => (mkF m 25 #[.val (.long kx), .second, .val (.long k1), .second, .val (.long k2), .second, .val (.long k3), .second, .val (.int rmv), .val (.long rr), .second, .unset] [(.int zq_)])) (bi_t (Or.inr (Or.inl h4))).symm) k)
      · refine XS.ifNo X0.here hx rfl (hb hby d13_10) rfl (lc_eq_f h4) ?_
        show Steps p.tables e below (s₁.setTop (mkF m 13 #[.val (.long kx), .second, .val (.long k1), .second, .val (.long k2), .second, .val (.long k3), .second, .val (.int rmv), .val (.long rr), .second, .unset] [])) t
        refine XS.lloadN X0.here hx rfl (hb hby d13_13) rfl ?_
        show Steps p.tables e below (s₁.setTop (mkF m 14 #[.val (.long kx), .second, .val (.long k1), .second, .val (.long k2), .second, .val (.long k3), .second, .val (.int rmv), .val (.long rr), .second, .unset] [(.long kx)])) t
        refine XS.lload X0.here hx rfl (hb hby d13_14) rfl ?_
        show Steps p.tables e below (s₁.setTop (mkF m 16 #[.val (.long kx), .second, .val (.long k1), .second, .val (.long k2), .second, .val (.long k3), .second, .val (.int rmv), .val (.long rr), .second, .unset] [(.long k3), (.long kx)])) t
        refine XS.lcmp X0.here hx rfl (hb hby d13_16) rfl ?_
        show Steps p.tables e below (s₁.setTop (mkF m 17 #[.val (.long kx), .second, .val (.long k1), .second, .val (.long k2), .second, .val (.long k3), .second, .val (.int rmv), .val (.long rr), .second, .unset] [(.int (lcmpW kx k3))])) t
        by_cases h5 : (kx = k3)
        · refine XS.ifNo X0.here hx rfl (hb hby d13_17) rfl (lc_ne_f h5) ?_
          show Steps p.tables e below (s₁.setTop (mkF m 20 #[.val (.long kx), .second, .val (.long k1), .second, .val (.long k2), .second, .val (.long k3), .second, .val (.int rmv), .val (.long rr), .second, .unset] [])) t
          refine XS.iconst X0.here hx rfl (hb hby d13_20) ?_
          show Steps p.tables e below (s₁.setTop (mkF m 21 #[.val (.long kx), .second, .val (.long k1), .second, .val (.long k2), .second, .val (.long k3), .second, .val (.int rmv), .val (.long rr), .second, .unset] [(.int (1 : Int32))])) t
          refine XS.goto X0.here hx rfl (pc0 := 21) (pc' := 25) rfl (hb hby d13_21) (by decide) (by decide) ?_
          show Steps p.tables e below (s₁.setTop (mkF m 25 #[.val (.long kx), .second, .val (.long k1), .second, .val (.long k2), .second, .val (.long k3), .second, .val (.int rmv), .val (.long rr), .second, .unset] [(.int (1 : Int32))])) t
          exact (castTop (congrArg (fun zq_ => (mkF m 25 #[.val (.long kx), .second, .val (.long k1), .second, .val (.long k2), .second, .val (.long k3), .second, .val (.int rmv), .val (.long rr), .second, .unset] [(.int zq_)])) (bi_t (Or.inr (Or.inr h5))).symm) k)
        · refine XS.ifYes X0.here hx rfl (pc0 := 17) (pc' := 24) rfl (hb hby d13_17) rfl (lc_ne_t h5) (by decide) (by decide) ?_
          show Steps p.tables e below (s₁.setTop (mkF m 24 #[.val (.long kx), .second, .val (.long k1), .second, .val (.long k2), .second, .val (.long k3), .second, .val (.int rmv), .val (.long rr), .second, .unset] [])) t
          refine XS.iconst X0.here hx rfl (hb hby d13_24) ?_
          show Steps p.tables e below (s₁.setTop (mkF m 25 #[.val (.long kx), .second, .val (.long k1), .second, .val (.long k2), .second, .val (.long k3), .second, .val (.int rmv), .val (.long rr), .second, .unset] [(.int (0 : Int32))])) t
          exact (castTop (congrArg (fun zq_ => (mkF m 25 #[.val (.long kx), .second, .val (.long k1), .second, .val (.long k2), .second, .val (.long k3), .second, .val (.int rmv), .val (.long rr), .second, .unset] [(.int zq_)])) (bi_f (fun q => q.elim h3 (fun q => q.elim h4 h5))).symm) k)
  refine OFin.go J2 ?_
  have S6 : ∀ t, Steps p.tables e below (s₁.setTop (mkF m 29 #[.val (.long kx), .second, .val (.long k1), .second, .val (.long k2), .second, .val (.long k3), .second, .val (.int rmv), .val (.long rr), .second, .val (.int (bi ((kx = k1) ∨ ((kx = k2) ∨ (kx = k3)))))] [(.int (bi ((kx = k1) ∨ ((kx = k2) ∨ (kx = k3)))))])) t → Steps p.tables e below (s₁.setTop (mkF m 25 #[.val (.long kx), .second, .val (.long k1), .second, .val (.long k2), .second, .val (.long k3), .second, .val (.int rmv), .val (.long rr), .second, .unset] [(.int (bi ((kx = k1) ∨ ((kx = k2) ∨ (kx = k3)))))])) t := by
    intro t k
    show Steps p.tables e below (s₁.setTop (mkF m 25 #[.val (.long kx), .second, .val (.long k1), .second, .val (.long k2), .second, .val (.long k3), .second, .val (.int rmv), .val (.long rr), .second, .unset] [(.int (bi ((kx = k1) ∨ ((kx = k2) ∨ (kx = k3)))))])) t
    refine XS.istore X0.here hx rfl (hb hby d13_25) rfl (l' := #[.val (.long kx), .second, .val (.long k1), .second, .val (.long k2), .second, .val (.long k3), .second, .val (.int rmv), .val (.long rr), .second, .val (.int (bi ((kx = k1) ∨ ((kx = k2) ∨ (kx = k3)))))]) rfl ?_
    show Steps p.tables e below (s₁.setTop (mkF m 27 #[.val (.long kx), .second, .val (.long k1), .second, .val (.long k2), .second, .val (.long k3), .second, .val (.int rmv), .val (.long rr), .second, .val (.int (bi ((kx = k1) ∨ ((kx = k2) ∨ (kx = k3)))))] [])) t
    refine XS.iload X0.here hx rfl (hb hby d13_27) rfl ?_
    exact k
  refine OFin.go S6 ?_
  have J7 : ∀ t, Steps p.tables e below (s₁.setTop (mkF m 49 #[.val (.long kx), .second, .val (.long k1), .second, .val (.long k2), .second, .val (.long k3), .second, .val (.int rmv), .val (.long rr), .second, .val (.int (bi ((kx = k1) ∨ ((kx = k2) ∨ (kx = k3)))))] [(.int (bi (((kx = k1) ∨ ((kx = k2) ∨ (kx = k3))) ∧ ((rmv = (0 : Int32)) ∨ (¬ (kx = rr))))))])) t → Steps p.tables e below (s₁.setTop (mkF m 29 #[.val (.long kx), .second, .val (.long k1), .second, .val (.long k2), .second, .val (.long k3), .second, .val (.int rmv), .val (.long rr), .second, .val (.int (bi ((kx = k1) ∨ ((kx = k2) ∨ (kx = k3)))))] [(.int (bi ((kx = k1) ∨ ((kx = k2) ∨ (kx = k3)))))])) t := by
    intro t k
    show Steps p.tables e below (s₁.setTop (mkF m 29 #[.val (.long kx), .second, .val (.long k1), .second, .val (.long k2), .second, .val (.long k3), .second, .val (.int rmv), .val (.long rr), .second, .val (.int (bi ((kx = k1) ∨ ((kx = k2) ∨ (kx = k3)))))] [(.int (bi ((kx = k1) ∨ ((kx = k2) ∨ (kx = k3)))))])) t
    by_cases h8 : ((kx = k1) ∨ ((kx = k2) ∨ (kx = k3)))
    · refine XS.ifNo X0.here hx rfl (hb hby d13_29) rfl (bi_eq_f h8) ?_
      show Steps p.tables e below (s₁.setTop (mkF m 32 #[.val (.long kx), .second, .val (.long k1), .second, .val (.long k2), .second, .val (.long k3), .second, .val (.int rmv), .val (.long rr), .second, .val (.int (bi ((kx = k1) ∨ ((kx = k2) ∨ (kx = k3)))))] [])) t
      refine XS.iload X0.here hx rfl (hb hby d13_32) rfl ?_
      show Steps p.tables e below (s₁.setTop (mkF m 34 #[.val (.long kx), .second, .val (.long k1), .second, .val (.long k2), .second, .val (.long k3), .second, .val (.int rmv), .val (.long rr), .second, .val (.int (bi ((kx = k1) ∨ ((kx = k2) ∨ (kx = k3)))))] [(.int rmv)])) t
      by_cases h9 : (rmv = (0 : Int32))
      · refine XS.ifYes X0.here hx rfl (pc0 := 34) (pc' := 44) rfl (hb hby d13_34) rfl ((if0 _ _).trans (teq h9).1) (by decide) (by decide) ?_
        show Steps p.tables e below (s₁.setTop (mkF m 44 #[.val (.long kx), .second, .val (.long k1), .second, .val (.long k2), .second, .val (.long k3), .second, .val (.int rmv), .val (.long rr), .second, .val (.int (bi ((kx = k1) ∨ ((kx = k2) ∨ (kx = k3)))))] [])) t
        refine XS.iconst X0.here hx rfl (hb hby d13_44) ?_
        show Steps p.tables e below (s₁.setTop (mkF m 45 #[.val (.long kx), .second, .val (.long k1), .second, .val (.long k2), .second, .val (.long k3), .second, .val (.int rmv), .val (.long rr), .second, .val (.int (bi ((kx = k1) ∨ ((kx = k2) ∨ (kx = k3)))))] [(.int (1 : Int32))])) t
        refine XS.goto X0.here hx rfl (pc0 := 45) (pc' := 49) rfl (hb hby d13_45) (by decide) (by decide) ?_
        show Steps p.tables e below (s₁.setTop (mkF m 49 #[.val (.long kx), .second, .val (.long k1), .second, .val (.long k2), .second, .val (.long k3), .second, .val (.int rmv), .val (.long rr), .second, .val (.int (bi ((kx = k1) ∨ ((kx = k2) ∨ (kx = k3)))))] [(.int (1 : Int32))])) t
        exact (castTop (congrArg (fun zq_ => (mkF m 49 #[.val (.long kx), .second, .val (.long k1), .second, .val (.long k2), .second, .val (.long k3), .second, .val (.int rmv), .val (.long rr), .second, .val (.int (bi ((kx = k1) ∨ ((kx = k2) ∨ (kx = k3)))))] [(.int zq_)])) (bi_t ⟨h8, (Or.inl h9)⟩).symm) k)
      · refine XS.ifNo X0.here hx rfl (hb hby d13_34) rfl ((if0 _ _).trans (feq h9).1) ?_
        show Steps p.tables e below (s₁.setTop (mkF m 37 #[.val (.long kx), .second, .val (.long k1), .second, .val (.long k2), .second, .val (.long k3), .second, .val (.int rmv), .val (.long rr), .second, .val (.int (bi ((kx = k1) ∨ ((kx = k2) ∨ (kx = k3)))))] [])) t
        refine XS.lloadN X0.here hx rfl (hb hby d13_37) rfl ?_
        show Steps p.tables e below (s₁.setTop (mkF m 38 #[.val (.long kx), .second, .val (.long k1), .second, .val (.long k2), .second, .val (.long k3), .second, .val (.int rmv), .val (.long rr), .second, .val (.int (bi ((kx = k1) ∨ ((kx = k2) ∨ (kx = k3)))))] [(.long kx)])) t
        refine XS.lload X0.here hx rfl (hb hby d13_38) rfl ?_
        show Steps p.tables e below (s₁.setTop (mkF m 40 #[.val (.long kx), .second, .val (.long k1), .second, .val (.long k2), .second, .val (.long k3), .second, .val (.int rmv), .val (.long rr), .second, .val (.int (bi ((kx = k1) ∨ ((kx = k2) ∨ (kx = k3)))))] [(.long rr), (.long kx)])) t
        refine XS.lcmp X0.here hx rfl (hb hby d13_40) rfl ?_
        show Steps p.tables e below (s₁.setTop (mkF m 41 #[.val (.long kx), .second, .val (.long k1), .second, .val (.long k2), .second, .val (.long k3), .second, .val (.int rmv), .val (.long rr), .second, .val (.int (bi ((kx = k1) ∨ ((kx = k2) ∨ (kx = k3)))))] [(.int (lcmpW kx rr))])) t
        by_cases h10 : (kx = rr)
        · refine XS.ifYes X0.here hx rfl (pc0 := 41) (pc' := 48) rfl (hb hby d13_41) rfl (lc_eq_t h10) (by decide) (by decide) ?_
          show Steps p.tables e below (s₁.setTop (mkF m 48 #[.val (.long kx), .second, .val (.long k1), .second, .val (.long k2), .second, .val (.long k3), .second, .val (.int rmv), .val (.long rr), .second, .val (.int (bi ((kx = k1) ∨ ((kx = k2) ∨ (kx = k3)))))] [])) t
          refine XS.iconst X0.here hx rfl (hb hby d13_48) ?_
          show Steps p.tables e below (s₁.setTop (mkF m 49 #[.val (.long kx), .second, .val (.long k1), .second, .val (.long k2), .second, .val (.long k3), .second, .val (.int rmv), .val (.long rr), .second, .val (.int (bi ((kx = k1) ∨ ((kx = k2) ∨ (kx = k3)))))] [(.int (0 : Int32))])) t
          exact (castTop (congrArg (fun zq_ => (mkF m 49 #[.val (.long kx), .second, .val (.long k1), .second, .val (.long k2), .second, .val (.long k3), .second, .val (.int rmv), .val (.long rr), .second, .val (.int (bi ((kx = k1) ∨ ((kx = k2) ∨ (kx = k3)))))] [(.int zq_)])) (bi_f (fun q => (fun q => q.elim h9 (fun q => q h10)) q.2)).symm) k)
        · refine XS.ifNo X0.here hx rfl (hb hby d13_41) rfl (lc_eq_f h10) ?_
          show Steps p.tables e below (s₁.setTop (mkF m 44 #[.val (.long kx), .second, .val (.long k1), .second, .val (.long k2), .second, .val (.long k3), .second, .val (.int rmv), .val (.long rr), .second, .val (.int (bi ((kx = k1) ∨ ((kx = k2) ∨ (kx = k3)))))] [])) t
          refine XS.iconst X0.here hx rfl (hb hby d13_44) ?_
          show Steps p.tables e below (s₁.setTop (mkF m 45 #[.val (.long kx), .second, .val (.long k1), .second, .val (.long k2), .second, .val (.long k3), .second, .val (.int rmv), .val (.long rr), .second, .val (.int (bi ((kx = k1) ∨ ((kx = k2) ∨ (kx = k3)))))] [(.int (1 : Int32))])) t
          refine XS.goto X0.here hx rfl (pc0 := 45) (pc' := 49) rfl (hb hby d13_45) (by decide) (by decide) ?_
          show Steps p.tables e below (s₁.setTop (mkF m 49 #[.val (.long kx), .second, .val (.long k1), .second, .val (.long k2), .second, .val (.long k3), .second, .val (.int rmv), .val (.long rr), .second, .val (.int (bi ((kx = k1) ∨ ((kx = k2) ∨ (kx = k3)))))] [(.int (1 : Int32))])) t
          exact (castTop (congrArg (fun zq_ => (mkF m 49 #[.val (.long kx), .second, .val (.long k1), .second, .val (.long k2), .second, .val (.long k3), .second, .val (.int rmv), .val (.long rr), .second, .val (.int (bi ((kx = k1) ∨ ((kx = k2) ∨ (kx = k3)))))] [(.int zq_)])) (bi_t ⟨h8, (Or.inr h10)⟩).symm) k)
    · refine XS.ifYes X0.here hx rfl (pc0 := 29) (pc' := 48) rfl (hb hby d13_29) rfl (bi_eq_t h8) (by decide) (by decide) ?_
      show Steps p.tables e below (s₁.setTop (mkF m 48 #[.val (.long kx), .second, .val (.long k1), .second, .val (.long k2), .second, .val (.long k3), .second, .val (.int rmv), .val (.long rr), .second, .val (.int (bi ((kx = k1) ∨ ((kx = k2) ∨ (kx = k3)))))] [])) t
      refine XS.iconst X0.here hx rfl (hb hby d13_48) ?_
      show Steps p.tables e below (s₁.setTop (mkF m 49 #[.val (.long kx), .second, .val (.long k1), .second, .val (.long k2), .second, .val (.long k3), .second, .val (.int rmv), .val (.long rr), .second, .val (.int (bi ((kx = k1) ∨ ((kx = k2) ∨ (kx = k3)))))] [(.int (0 : Int32))])) t
      exact (castTop (congrArg (fun zq_ => (mkF m 49 #[.val (.long kx), .second, .val (.long k1), .second, .val (.long k2), .second, .val (.long k3), .second, .val (.int rmv), .val (.long rr), .second, .val (.int (bi ((kx = k1) ∨ ((kx = k2) ∨ (kx = k3)))))] [(.int zq_)])) (bi_f (fun q => h8 q.1)).symm) k)
  refine OFin.go J7 ?_
  exact finZ X0 hx Bd.notSynchronized (t := .boolean) Bd.returns (by simp) (hb hby d13_49) (nar_bi _) (by decide) (by decide) (⟨congrArg (fun z => some (Value.int z)) (show (bi (((kx = k1) ∨ ((kx = k2) ∨ (kx = k3))) ∧ ((rmv = (0 : Int32)) ∨ (¬ (kx = rr))))) = (bi (((kx = k1) ∨ ((kx = k2) ∨ (kx = k3))) ∧ ((rmv = (0 : Int32)) ∨ (¬ (kx = rr))))) by rfl : (bi (((kx = k1) ∨ ((kx = k2) ∨ (kx = k3))) ∧ ((rmv = (0 : Int32)) ∨ (¬ (kx = rr))))) = (modelF kx k1 k2 k3 rmv rr)), N0, e0⟩)
theorem own_prop (A B C D E : Prop) : ((A ∨ B ∨ C) ∧ ¬ (¬ D ∧ E)) ↔ ((A ∨ (B ∨ C)) ∧ (D ∨ (¬ E))) := by
  by_cases A <;> by_cases B <;> by_cases C <;> by_cases D <;> by_cases E <;> simp [*]
theorem own_bi {b : Int32} {P : Prop} [Decidable P] (h01 : b = 1 ∨ b = 0) (h : b = 1 ↔ P) : b = bi P := by
  rcases h01 with q | q
  · rw [bi_t (h.mp q)]; exact q
  · rw [bi_f (fun p => absurd (q.symm.trans (h.mpr p)) (by decide))]; exact q
theorem own_model {b : Int32} (kx k1 k2 k3 : Int64) (rmv : Int32) (rr : Int64) (h01 : b = 1 ∨ b = 0) (h : b = 1 ↔ (kx = k1 ∨ kx = k2 ∨ kx = k3) ∧ ¬ (¬ rmv = 0 ∧ kx = rr)) : b = modelF kx k1 k2 k3 rmv rr := by
  unfold modelF
  exact own_bi h01 (h.trans (own_prop _ _ _ _ _))
theorem own_exadd (key : Int64) (M : Int64 → Int64 → Prop) (k : Int64) : (∃ w, addM key M k w) ↔ k = key ∨ ∃ w, M k w := by
  unfold addM
  by_cases r : k = key
  · subst r
    refine ⟨fun _ => Or.inl rfl, fun _ => ?_⟩
    by_cases ex : ∃ w, M k w
    · obtain ⟨w, hw⟩ := ex; exact ⟨w, by rw [if_pos rfl]; exact Or.inr hw⟩
    · exact ⟨0, by rw [if_pos rfl]; exact Or.inl ⟨rfl, fun v' hv => ex ⟨v', hv⟩⟩⟩
  · simp only [if_neg r]
    exact ⟨Or.inr, fun z => z.elim (fun y => absurd y r) id⟩
theorem own_ex3 (k k1 k2 k3 : Int64) : (∃ w, addM k3 (addM k2 (addM k1 eM)) k w) ↔ (k = k1 ∨ k = k2 ∨ k = k3) := by
  rw [own_exadd, own_exadd, own_exadd]
  constructor
  · rintro (h | h | h | ⟨w, h⟩)
    · exact Or.inr (Or.inr h)
    · exact Or.inr (Or.inl h)
    · exact Or.inl h
    · exact False.elim h
  · rintro (h | h | h)
    · exact Or.inr (Or.inr (Or.inl h))
    · exact Or.inr (Or.inl h)
    · exact Or.inl h
theorem own_fin0 {b rmv : Int32} {k k1 k2 k3 rr : Int64} (hr : rmv = 0) (h : b = 1 ↔ ∃ w, addM k3 (addM k2 (addM k1 eM)) k w) : b = 1 ↔ (k = k1 ∨ k = k2 ∨ k = k3) ∧ ¬ (¬ rmv = 0 ∧ k = rr) :=
  h.trans ((own_ex3 k k1 k2 k3).trans ⟨fun z => ⟨z, fun y => y.1 hr⟩, fun z => z.1⟩)
theorem own_fin1 {b rmv : Int32} {k k1 k2 k3 rr : Int64} (hr : ¬ rmv = 0) (h : b = 1 ↔ ∃ w, remM rr (addM k3 (addM k2 (addM k1 eM))) k w) : b = 1 ↔ (k = k1 ∨ k = k2 ∨ k = k3) ∧ ¬ (¬ rmv = 0 ∧ k = rr) :=
  h.trans ⟨fun ⟨w, y⟩ => ⟨(own_ex3 k k1 k2 k3).mp ⟨w, y.2⟩, fun z => y.1 z.2⟩, fun z => by
    obtain ⟨w, hw⟩ := (own_ex3 k k1 k2 k3).mpr z.1
    exact ⟨w, fun e => z.2 ⟨hr, e⟩, hw⟩⟩
theorem ef_rm0 (m : MethodId) (x1 : Int64) (x2 : Int64) (x3 : Int64) (x4 : Int64) (mode : Int32) : entryFrame m #[(.long x1), (.long x2), (.long x3), (.long x4), (.int mode)] maxLocals = mkF m 0 #[.val (.long x1), .second, .val (.long x2), .second, .val (.long x3), .second, .val (.long x4), .second, .val (.int mode), .unset, .unset, .unset, .unset, .unset, .unset, .unset, .unset, .unset, .unset, .unset, .unset, .unset, .unset, .unset, .unset, .unset, .unset, .unset, .unset, .unset, .unset, .unset] [] := by first | (simp [entryFrame, mkF, argsToLocals, Value.category, maxLocals]; done) | rfl
def Q_rm0 (Z : State) (x1 : Int64) (x2 : Int64) (x3 : Int64) (x4 : Int64) (mode : Int32)  (h0 : Heap) (n0 : Nat) (v : Option Value) (h : Heap) (L : List Loc) : Prop := v = some (.int (1 : Int32)) ∧ Fr n0 L
theorem pd_7 : parseMethodDescriptor "(JJJJZJ)Z" = some ⟨[.long, .long, .long, .long, .boolean, .long], some .boolean⟩ := by decide +kernel
set_option maxRecDepth 65536 in
set_option maxHeartbeats 40000000 in
theorem rm0 (l : Launch) (Z : State) (a0 : Array Value) (hw : ∀ d ∈ tables_1, d.before a0 Z = true) (ws : List Jvm.Cond) (x1 : Int64) (x2 : Int64) (x3 : Int64) (x4 : Int64) (mode : Int32)  (h0 : Heap) (n0 : Nat) (Z0 : n0 ≤ h0.size)  :
    MetFree l x (head1 (Jvm.Cond.code x code maxLocals ret :: ws) room_1) (fun a U => a = #[(.long x1), (.long x2), (.long x3), (.long x4), (.int mode)] ∧ Z.Warmed39 U.vm ∧ U.heap = h0) (fun _ _ _ _ _ => True) (fun _ U o U' => ∃ v L, o = .returned v ∧ (Q_rm0 Z x1 x2 x3 x4 mode h0 n0) v U'.heap L ∧ FrameEnd U o U' L 272 2816) := by
  refine MetFree.of_bodySF (plainFor_of_name pn_3) hisR ?_
  intro p e s m args below meth c s₁ Bd hml0 hP hK
  obtain ⟨rfl, hZ, hh⟩ := hP
  have hx := Bd.exec
  have hby := Bd.bytes
  have hml : c.maxLocals = 32 := hml0
  have hown : s.vm.findClass "com/example/clockwrap/clockwrap/store/LongTableContainsPinLaw" = some m.cls := findClass_of_methodNamed Bd.named
  have hnm := (name_of_methodNamed Bd.named Bd.method).1
  have X0 : Stand p l e room_1 s m #[(.long x1), (.long x2), (.long x3), (.long x4), (.int mode)] below meth c s₁ [] 0 0 := Stand.of_body Bd
  have e0 : s₁.heap = h0 := by rw [← hh, Bd.state]; rfl
  have N0 := Fr.nil n0
  show OFin p e below (ORet (Q_rm0 Z x1 x2 x3 x4 mode h0 n0) s 272 2816) (s₁.setTop (entryFrame m #[(.long x1), (.long x2), (.long x3), (.long x4), (.int mode)] maxLocals))
  refine OFin.go (fun t k => castTop (ef_rm0 m x1 x2 x3 x4 mode) k) ?_
  show OFin p e below (ORet (Q_rm0 Z x1 x2 x3 x4 mode h0 n0) s 272 2816) (s₁.setTop (mkF m 0 #[.val (.long x1), .second, .val (.long x2), .second, .val (.long x3), .second, .val (.long x4), .second, .val (.int mode), .unset, .unset, .unset, .unset, .unset, .unset, .unset, .unset, .unset, .unset, .unset, .unset, .unset, .unset, .unset, .unset, .unset, .unset, .unset, .unset, .unset, .unset, .unset] []))
  have S1 : ∀ t, Steps p.tables e below (s₁.setTop (mkF m 15 #[.val (.long x1), .second, .val (.long x2), .second, .val (.long x3), .second, .val (.long x4), .second, .val (.int mode), .val (.long (-18014398509481984 : Int64)), .second, .val (.long (-288230376151711744 : Int64)), .second, .unset, .unset, .unset, .unset, .unset, .unset, .unset, .unset, .unset, .unset, .unset, .unset, .unset, .unset, .unset, .unset, .unset, .unset, .unset] [(.int (mode &&& (16 : Int32)))])) t → Steps p.tables e below (s₁.setTop (mkF m 0 #[.val (.long x1), .second, .val (.long x2), .second, .val (.long x3), .second, .val (.long x4), .second, .val (.int mode), .unset, .unset, .unset, .unset, .unset, .unset, .unset, .unset, .unset, .unset, .unset, .unset, .unset, .unset, .unset, .unset, .unset, .unset, .unset, .unset, .unset, .unset, .unset] [])) t := by
    intro t k
    show Steps p.tables e below (s₁.setTop (mkF m 0 #[.val (.long x1), .second, .val (.long x2), .second, .val (.long x3), .second, .val (.long x4), .second, .val (.int mode), .unset, .unset, .unset, .unset, .unset, .unset, .unset, .unset, .unset, .unset, .unset, .unset, .unset, .unset, .unset, .unset, .unset, .unset, .unset, .unset, .unset, .unset, .unset] [])) t
    refine X0.ldc2Long hx hown (mvT hZ (hw _ (List.mem_of_getElem? (i := 0) rfl))) (g := (mkF m 0 #[.val (.long x1), .second, .val (.long x2), .second, .val (.long x3), .second, .val (.long x4), .second, .val (.int mode), .unset, .unset, .unset, .unset, .unset, .unset, .unset, .unset, .unset, .unset, .unset, .unset, .unset, .unset, .unset, .unset, .unset, .unset, .unset, .unset, .unset, .unset, .unset] [])) rfl (hb hby at_0) _ ?_
    show Steps p.tables e below (s₁.setTop (mkF m 3 #[.val (.long x1), .second, .val (.long x2), .second, .val (.long x3), .second, .val (.long x4), .second, .val (.int mode), .unset, .unset, .unset, .unset, .unset, .unset, .unset, .unset, .unset, .unset, .unset, .unset, .unset, .unset, .unset, .unset, .unset, .unset, .unset, .unset, .unset, .unset, .unset] [(.long (-18014398509481984 : Int64))])) t
    refine XS.lstore X0.here hx rfl (hb hby at_3) rfl (l' := #[.val (.long x1), .second, .val (.long x2), .second, .val (.long x3), .second, .val (.long x4), .second, .val (.int mode), .val (.long (-18014398509481984 : Int64)), .second, .unset, .unset, .unset, .unset, .unset, .unset, .unset, .unset, .unset, .unset, .unset, .unset, .unset, .unset, .unset, .unset, .unset, .unset, .unset, .unset, .unset]) rfl ?_
    show Steps p.tables e below (s₁.setTop (mkF m 5 #[.val (.long x1), .second, .val (.long x2), .second, .val (.long x3), .second, .val (.long x4), .second, .val (.int mode), .val (.long (-18014398509481984 : Int64)), .second, .unset, .unset, .unset, .unset, .unset, .unset, .unset, .unset, .unset, .unset, .unset, .unset, .unset, .unset, .unset, .unset, .unset, .unset, .unset, .unset, .unset] [])) t
    refine X0.ldc2Long hx hown (mvT hZ (hw _ (List.mem_of_getElem? (i := 1) rfl))) (g := (mkF m 5 #[.val (.long x1), .second, .val (.long x2), .second, .val (.long x3), .second, .val (.long x4), .second, .val (.int mode), .val (.long (-18014398509481984 : Int64)), .second, .unset, .unset, .unset, .unset, .unset, .unset, .unset, .unset, .unset, .unset, .unset, .unset, .unset, .unset, .unset, .unset, .unset, .unset, .unset, .unset, .unset] [])) rfl (hb hby at_5) _ ?_
    show Steps p.tables e below (s₁.setTop (mkF m 8 #[.val (.long x1), .second, .val (.long x2), .second, .val (.long x3), .second, .val (.long x4), .second, .val (.int mode), .val (.long (-18014398509481984 : Int64)), .second, .unset, .unset, .unset, .unset, .unset, .unset, .unset, .unset, .unset, .unset, .unset, .unset, .unset, .unset, .unset, .unset, .unset, .unset, .unset, .unset, .unset] [(.long (-288230376151711744 : Int64))])) t
    refine XS.lstore X0.here hx rfl (hb hby at_8) rfl (l' := #[.val (.long x1), .second, .val (.long x2), .second, .val (.long x3), .second, .val (.long x4), .second, .val (.int mode), .val (.long (-18014398509481984 : Int64)), .second, .val (.long (-288230376151711744 : Int64)), .second, .unset, .unset, .unset, .unset, .unset, .unset, .unset, .unset, .unset, .unset, .unset, .unset, .unset, .unset, .unset, .unset, .unset, .unset, .unset]) rfl ?_
    show Steps p.tables e below (s₁.setTop (mkF m 10 #[.val (.long x1), .second, .val (.long x2), .second, .val (.long x3), .second, .val (.long x4), .second, .val (.int mode), .val (.long (-18014398509481984 : Int64)), .second, .val (.long (-288230376151711744 : Int64)), .second, .unset, .unset, .unset, .unset, .unset, .unset, .unset, .unset, .unset, .unset, .unset, .unset, .unset, .unset, .unset, .unset, .unset, .unset, .unset] [])) t
    refine XS.iload X0.here hx rfl (hb hby at_10) rfl ?_
    show Steps p.tables e below (s₁.setTop (mkF m 12 #[.val (.long x1), .second, .val (.long x2), .second, .val (.long x3), .second, .val (.long x4), .second, .val (.int mode), .val (.long (-18014398509481984 : Int64)), .second, .val (.long (-288230376151711744 : Int64)), .second, .unset, .unset, .unset, .unset, .unset, .unset, .unset, .unset, .unset, .unset, .unset, .unset, .unset, .unset, .unset, .unset, .unset, .unset, .unset] [(.int mode)])) t
    refine XS.bipush X0.here hx rfl (hb hby at_12) ?_
    show Steps p.tables e below (s₁.setTop (mkF m 14 #[.val (.long x1), .second, .val (.long x2), .second, .val (.long x3), .second, .val (.long x4), .second, .val (.int mode), .val (.long (-18014398509481984 : Int64)), .second, .val (.long (-288230376151711744 : Int64)), .second, .unset, .unset, .unset, .unset, .unset, .unset, .unset, .unset, .unset, .unset, .unset, .unset, .unset, .unset, .unset, .unset, .unset, .unset, .unset] [(.int (16 : Int32)), (.int mode)])) t
    refine XS.iand X0.here hx rfl (hb hby at_14) rfl ?_
    exact k
  refine OFin.go S1 ?_
  have J2 : ∀ t, Steps p.tables e below (s₁.setTop (mkF m 20 #[.val (.long (if ((mode &&& (16 : Int32)) = (0 : Int32)) then x1 else (0 : Int64))), .second, .val (.long x2), .second, .val (.long x3), .second, .val (.long x4), .second, .val (.int mode), .val (.long (-18014398509481984 : Int64)), .second, .val (.long (-288230376151711744 : Int64)), .second, .unset, .unset, .unset, .unset, .unset, .unset, .unset, .unset, .unset, .unset, .unset, .unset, .unset, .unset, .unset, .unset, .unset, .unset, .unset] [])) t → Steps p.tables e below (s₁.setTop (mkF m 15 #[.val (.long x1), .second, .val (.long x2), .second, .val (.long x3), .second, .val (.long x4), .second, .val (.int mode), .val (.long (-18014398509481984 : Int64)), .second, .val (.long (-288230376151711744 : Int64)), .second, .unset, .unset, .unset, .unset, .unset, .unset, .unset, .unset, .unset, .unset, .unset, .unset, .unset, .unset, .unset, .unset, .unset, .unset, .unset] [(.int (mode &&& (16 : Int32)))])) t := by
    intro t k
    show Steps p.tables e below (s₁.setTop (mkF m 15 #[.val (.long x1), .second, .val (.long x2), .second, .val (.long x3), .second, .val (.long x4), .second, .val (.int mode), .val (.long (-18014398509481984 : Int64)), .second, .val (.long (-288230376151711744 : Int64)), .second, .unset, .unset, .unset, .unset, .unset, .unset, .unset, .unset, .unset, .unset, .unset, .unset, .unset, .unset, .unset, .unset, .unset, .unset, .unset] [(.int (mode &&& (16 : Int32)))])) t
    by_cases h3 : ((mode &&& (16 : Int32)) = (0 : Int32))
    · refine XS.ifYes X0.here hx rfl (pc0 := 15) (pc' := 20) rfl (hb hby at_15) rfl ((if0 _ _).trans (teq h3).1) (by decide) (by decide) ?_
      show Steps p.tables e below (s₁.setTop (mkF m 20 #[.val (.long x1), .second, .val (.long x2), .second, .val (.long x3), .second, .val (.long x4), .second, .val (.int mode), .val (.long (-18014398509481984 : Int64)), .second, .val (.long (-288230376151711744 : Int64)), .second, .unset, .unset, .unset, .unset, .unset, .unset, .unset, .unset, .unset, .unset, .unset, .unset, .unset, .unset, .unset, .unset, .unset, .unset, .unset] [])) t
      exact (castTop (congrArg (fun zq_ => (mkF m 20 #[.val (.long zq_), .second, .val (.long x2), .second, .val (.long x3), .second, .val (.long x4), .second, .val (.int mode), .val (.long (-18014398509481984 : Int64)), .second, .val (.long (-288230376151711744 : Int64)), .second, .unset, .unset, .unset, .unset, .unset, .unset, .unset, .unset, .unset, .unset, .unset, .unset, .unset, .unset, .unset, .unset, .unset, .unset, .unset] [])) (show x1 = (if ((mode &&& (16 : Int32)) = (0 : Int32)) then x1 else (0 : Int64)) by rw [if_pos h3])) k)
    · refine XS.ifNo X0.here hx rfl (hb hby at_15) rfl ((if0 _ _).trans (feq h3).1) ?_
      show Steps p.tables e below (s₁.setTop (mkF m 18 #[.val (.long x1), .second, .val (.long x2), .second, .val (.long x3), .second, .val (.long x4), .second, .val (.int mode), .val (.long (-18014398509481984 : Int64)), .second, .val (.long (-288230376151711744 : Int64)), .second, .unset, .unset, .unset, .unset, .unset, .unset, .unset, .unset, .unset, .unset, .unset, .unset, .unset, .unset, .unset, .unset, .unset, .unset, .unset] [])) t
      refine XS.lconst X0.here hx rfl (hb hby at_18) ?_
      show Steps p.tables e below (s₁.setTop (mkF m 19 #[.val (.long x1), .second, .val (.long x2), .second, .val (.long x3), .second, .val (.long x4), .second, .val (.int mode), .val (.long (-18014398509481984 : Int64)), .second, .val (.long (-288230376151711744 : Int64)), .second, .unset, .unset, .unset, .unset, .unset, .unset, .unset, .unset, .unset, .unset, .unset, .unset, .unset, .unset, .unset, .unset, .unset, .unset, .unset] [(.long (0 : Int64))])) t
      refine XS.lstoreN X0.here hx rfl (hb hby at_19) rfl (l' := #[.val (.long (0 : Int64)), .second, .val (.long x2), .second, .val (.long x3), .second, .val (.long x4), .second, .val (.int mode), .val (.long (-18014398509481984 : Int64)), .second, .val (.long (-288230376151711744 : Int64)), .second, .unset, .unset, .unset, .unset, .unset, .unset, .unset, .unset, .unset, .unset, .unset, .unset, .unset, .unset, .unset, .unset, .unset, .unset, .unset]) rfl ?_
      show Steps p.tables e below (s₁.setTop (mkF m 20 #[.val (.long (0 : Int64)), .second, .val (.long x2), .second, .val (.long x3), .second, .val (.long x4), .second, .val (.int mode), .val (.long (-18014398509481984 : Int64)), .second, .val (.long (-288230376151711744 : Int64)), .second, .unset, .unset, .unset, .unset, .unset, .unset, .unset, .unset, .unset, .unset, .unset, .unset, .unset, .unset, .unset, .unset, .unset, .unset, .unset] [])) t
      exact (castTop (congrArg (fun zq_ => (mkF m 20 #[.val (.long zq_), .second, .val (.long x2), .second, .val (.long x3), .second, .val (.long x4), .second, .val (.int mode), .val (.long (-18014398509481984 : Int64)), .second, .val (.long (-288230376151711744 : Int64)), .second, .unset, .unset, .unset, .unset, .unset, .unset, .unset, .unset, .unset, .unset, .unset, .unset, .unset, .unset, .unset, .unset, .unset, .unset, .unset] [])) (show (0 : Int64) = (if ((mode &&& (16 : Int32)) = (0 : Int32)) then x1 else (0 : Int64)) by rw [if_neg h3])) k)
  refine OFin.go J2 ?_
  obtain ⟨y1, hy1⟩ : ∃ z : Int64, z = (if ((mode &&& (16 : Int32)) = (0 : Int32)) then x1 else (0 : Int64)) := ⟨_, rfl⟩
  rw [← hy1]
  show OFin p e below _ (s₁.setTop (mkF m 20 #[.val (.long y1), .second, .val (.long x2), .second, .val (.long x3), .second, .val (.long x4), .second, .val (.int mode), .val (.long (-18014398509481984 : Int64)), .second, .val (.long (-288230376151711744 : Int64)), .second, .unset, .unset, .unset, .unset, .unset, .unset, .unset, .unset, .unset, .unset, .unset, .unset, .unset, .unset, .unset, .unset, .unset, .unset, .unset] []))
  have S4 : ∀ t, Steps p.tables e below (s₁.setTop (mkF m 24 #[.val (.long y1), .second, .val (.long x2), .second, .val (.long x3), .second, .val (.long x4), .second, .val (.int mode), .val (.long (-18014398509481984 : Int64)), .second, .val (.long (-288230376151711744 : Int64)), .second, .unset, .unset, .unset, .unset, .unset, .unset, .unset, .unset, .unset, .unset, .unset, .unset, .unset, .unset, .unset, .unset, .unset, .unset, .unset] [(.int (mode &&& (1 : Int32)))])) t → Steps p.tables e below (s₁.setTop (mkF m 20 #[.val (.long y1), .second, .val (.long x2), .second, .val (.long x3), .second, .val (.long x4), .second, .val (.int mode), .val (.long (-18014398509481984 : Int64)), .second, .val (.long (-288230376151711744 : Int64)), .second, .unset, .unset, .unset, .unset, .unset, .unset, .unset, .unset, .unset, .unset, .unset, .unset, .unset, .unset, .unset, .unset, .unset, .unset, .unset] [])) t := by
    intro t k
    show Steps p.tables e below (s₁.setTop (mkF m 20 #[.val (.long y1), .second, .val (.long x2), .second, .val (.long x3), .second, .val (.long x4), .second, .val (.int mode), .val (.long (-18014398509481984 : Int64)), .second, .val (.long (-288230376151711744 : Int64)), .second, .unset, .unset, .unset, .unset, .unset, .unset, .unset, .unset, .unset, .unset, .unset, .unset, .unset, .unset, .unset, .unset, .unset, .unset, .unset] [])) t
    refine XS.iload X0.here hx rfl (hb hby at_20) rfl ?_
    show Steps p.tables e below (s₁.setTop (mkF m 22 #[.val (.long y1), .second, .val (.long x2), .second, .val (.long x3), .second, .val (.long x4), .second, .val (.int mode), .val (.long (-18014398509481984 : Int64)), .second, .val (.long (-288230376151711744 : Int64)), .second, .unset, .unset, .unset, .unset, .unset, .unset, .unset, .unset, .unset, .unset, .unset, .unset, .unset, .unset, .unset, .unset, .unset, .unset, .unset] [(.int mode)])) t
    refine XS.iconst X0.here hx rfl (hb hby at_22) ?_
    show Steps p.tables e below (s₁.setTop (mkF m 23 #[.val (.long y1), .second, .val (.long x2), .second, .val (.long x3), .second, .val (.long x4), .second, .val (.int mode), .val (.long (-18014398509481984 : Int64)), .second, .val (.long (-288230376151711744 : Int64)), .second, .unset, .unset, .unset, .unset, .unset, .unset, .unset, .unset, .unset, .unset, .unset, .unset, .unset, .unset, .unset, .unset, .unset, .unset, .unset] [(.int (1 : Int32)), (.int mode)])) t
    refine XS.iand X0.here hx rfl (hb hby at_23) rfl ?_
    exact k
  refine OFin.go S4 ?_
  have J5 : ∀ t, Steps p.tables e below (s₁.setTop (mkF m 41 #[.val (.long y1), .second, .val (.long (if ((mode &&& (1 : Int32)) = (0 : Int32)) then x2 else ((y1 &&& (-18014398509481984 : Int64)) ||| (x2 &&& (18014398509481983 : Int64))))), .second, .val (.long x3), .second, .val (.long x4), .second, .val (.int mode), .val (.long (-18014398509481984 : Int64)), .second, .val (.long (-288230376151711744 : Int64)), .second, .unset, .unset, .unset, .unset, .unset, .unset, .unset, .unset, .unset, .unset, .unset, .unset, .unset, .unset, .unset, .unset, .unset, .unset, .unset] [])) t → Steps p.tables e below (s₁.setTop (mkF m 24 #[.val (.long y1), .second, .val (.long x2), .second, .val (.long x3), .second, .val (.long x4), .second, .val (.int mode), .val (.long (-18014398509481984 : Int64)), .second, .val (.long (-288230376151711744 : Int64)), .second, .unset, .unset, .unset, .unset, .unset, .unset, .unset, .unset, .unset, .unset, .unset, .unset, .unset, .unset, .unset, .unset, .unset, .unset, .unset] [(.int (mode &&& (1 : Int32)))])) t := by
    intro t k
    show Steps p.tables e below (s₁.setTop (mkF m 24 #[.val (.long y1), .second, .val (.long x2), .second, .val (.long x3), .second, .val (.long x4), .second, .val (.int mode), .val (.long (-18014398509481984 : Int64)), .second, .val (.long (-288230376151711744 : Int64)), .second, .unset, .unset, .unset, .unset, .unset, .unset, .unset, .unset, .unset, .unset, .unset, .unset, .unset, .unset, .unset, .unset, .unset, .unset, .unset] [(.int (mode &&& (1 : Int32)))])) t
    by_cases h6 : ((mode &&& (1 : Int32)) = (0 : Int32))
    · refine XS.ifYes X0.here hx rfl (pc0 := 24) (pc' := 41) rfl (hb hby at_24) rfl ((if0 _ _).trans (teq h6).1) (by decide) (by decide) ?_
      show Steps p.tables e below (s₁.setTop (mkF m 41 #[.val (.long y1), .second, .val (.long x2), .second, .val (.long x3), .second, .val (.long x4), .second, .val (.int mode), .val (.long (-18014398509481984 : Int64)), .second, .val (.long (-288230376151711744 : Int64)), .second, .unset, .unset, .unset, .unset, .unset, .unset, .unset, .unset, .unset, .unset, .unset, .unset, .unset, .unset, .unset, .unset, .unset, .unset, .unset] [])) t
      exact (castTop (congrArg (fun zq_ => (mkF m 41 #[.val (.long y1), .second, .val (.long zq_), .second, .val (.long x3), .second, .val (.long x4), .second, .val (.int mode), .val (.long (-18014398509481984 : Int64)), .second, .val (.long (-288230376151711744 : Int64)), .second, .unset, .unset, .unset, .unset, .unset, .unset, .unset, .unset, .unset, .unset, .unset, .unset, .unset, .unset, .unset, .unset, .unset, .unset, .unset] [])) (show x2 = (if ((mode &&& (1 : Int32)) = (0 : Int32)) then x2 else ((y1 &&& (-18014398509481984 : Int64)) ||| (x2 &&& (18014398509481983 : Int64)))) by rw [if_pos h6])) k)
    · refine XS.ifNo X0.here hx rfl (hb hby at_24) rfl ((if0 _ _).trans (feq h6).1) ?_
      show Steps p.tables e below (s₁.setTop (mkF m 27 #[.val (.long y1), .second, .val (.long x2), .second, .val (.long x3), .second, .val (.long x4), .second, .val (.int mode), .val (.long (-18014398509481984 : Int64)), .second, .val (.long (-288230376151711744 : Int64)), .second, .unset, .unset, .unset, .unset, .unset, .unset, .unset, .unset, .unset, .unset, .unset, .unset, .unset, .unset, .unset, .unset, .unset, .unset, .unset] [])) t
      refine XS.lloadN X0.here hx rfl (hb hby at_27) rfl ?_
      show Steps p.tables e below (s₁.setTop (mkF m 28 #[.val (.long y1), .second, .val (.long x2), .second, .val (.long x3), .second, .val (.long x4), .second, .val (.int mode), .val (.long (-18014398509481984 : Int64)), .second, .val (.long (-288230376151711744 : Int64)), .second, .unset, .unset, .unset, .unset, .unset, .unset, .unset, .unset, .unset, .unset, .unset, .unset, .unset, .unset, .unset, .unset, .unset, .unset, .unset] [(.long y1)])) t
      refine XS.lload X0.here hx rfl (hb hby at_28) rfl ?_
      show Steps p.tables e below (s₁.setTop (mkF m 30 #[.val (.long y1), .second, .val (.long x2), .second, .val (.long x3), .second, .val (.long x4), .second, .val (.int mode), .val (.long (-18014398509481984 : Int64)), .second, .val (.long (-288230376151711744 : Int64)), .second, .unset, .unset, .unset, .unset, .unset, .unset, .unset, .unset, .unset, .unset, .unset, .unset, .unset, .unset, .unset, .unset, .unset, .unset, .unset] [(.long (-18014398509481984 : Int64)), (.long y1)])) t
      refine XS.land X0.here hx rfl (hb hby at_30) rfl ?_
      show Steps p.tables e below (s₁.setTop (mkF m 31 #[.val (.long y1), .second, .val (.long x2), .second, .val (.long x3), .second, .val (.long x4), .second, .val (.int mode), .val (.long (-18014398509481984 : Int64)), .second, .val (.long (-288230376151711744 : Int64)), .second, .unset, .unset, .unset, .unset, .unset, .unset, .unset, .unset, .unset, .unset, .unset, .unset, .unset, .unset, .unset, .unset, .unset, .unset, .unset] [(.long (y1 &&& (-18014398509481984 : Int64)))])) t
      refine XS.lloadN X0.here hx rfl (hb hby at_31) rfl ?_
      show Steps p.tables e below (s₁.setTop (mkF m 32 #[.val (.long y1), .second, .val (.long x2), .second, .val (.long x3), .second, .val (.long x4), .second, .val (.int mode), .val (.long (-18014398509481984 : Int64)), .second, .val (.long (-288230376151711744 : Int64)), .second, .unset, .unset, .unset, .unset, .unset, .unset, .unset, .unset, .unset, .unset, .unset, .unset, .unset, .unset, .unset, .unset, .unset, .unset, .unset] [(.long x2), (.long (y1 &&& (-18014398509481984 : Int64)))])) t
      refine XS.lload X0.here hx rfl (hb hby at_32) rfl ?_
      show Steps p.tables e below (s₁.setTop (mkF m 34 #[.val (.long y1), .second, .val (.long x2), .second, .val (.long x3), .second, .val (.long x4), .second, .val (.int mode), .val (.long (-18014398509481984 : Int64)), .second, .val (.long (-288230376151711744 : Int64)), .second, .unset, .unset, .unset, .unset, .unset, .unset, .unset, .unset, .unset, .unset, .unset, .unset, .unset, .unset, .unset, .unset, .unset, .unset, .unset] [(.long (-18014398509481984 : Int64)), (.long x2), (.long (y1 &&& (-18014398509481984 : Int64)))])) t
      refine X0.ldc2Long hx hown (mvT hZ (hw _ (List.mem_of_getElem? (i := 2) rfl))) (g := (mkF m 34 #[.val (.long y1), .second, .val (.long x2), .second, .val (.long x3), .second, .val (.long x4), .second, .val (.int mode), .val (.long (-18014398509481984 : Int64)), .second, .val (.long (-288230376151711744 : Int64)), .second, .unset, .unset, .unset, .unset, .unset, .unset, .unset, .unset, .unset, .unset, .unset, .unset, .unset, .unset, .unset, .unset, .unset, .unset, .unset] [(.long (-18014398509481984 : Int64)), (.long x2), (.long (y1 &&& (-18014398509481984 : Int64)))])) rfl (hb hby at_34) _ ?_
      show Steps p.tables e below (s₁.setTop (mkF m 37 #[.val (.long y1), .second, .val (.long x2), .second, .val (.long x3), .second, .val (.long x4), .second, .val (.int mode), .val (.long (-18014398509481984 : Int64)), .second, .val (.long (-288230376151711744 : Int64)), .second, .unset, .unset, .unset, .unset, .unset, .unset, .unset, .unset, .unset, .unset, .unset, .unset, .unset, .unset, .unset, .unset, .unset, .unset, .unset] [(.long (-1 : Int64)), (.long (-18014398509481984 : Int64)), (.long x2), (.long (y1 &&& (-18014398509481984 : Int64)))])) t
      refine XS.lxor X0.here hx rfl (hb hby at_37) rfl ?_
      show Steps p.tables e below (s₁.setTop (mkF m 38 #[.val (.long y1), .second, .val (.long x2), .second, .val (.long x3), .second, .val (.long x4), .second, .val (.int mode), .val (.long (-18014398509481984 : Int64)), .second, .val (.long (-288230376151711744 : Int64)), .second, .unset, .unset, .unset, .unset, .unset, .unset, .unset, .unset, .unset, .unset, .unset, .unset, .unset, .unset, .unset, .unset, .unset, .unset, .unset] [(.long (18014398509481983 : Int64)), (.long x2), (.long (y1 &&& (-18014398509481984 : Int64)))])) t
      refine XS.land X0.here hx rfl (hb hby at_38) rfl ?_
      show Steps p.tables e below (s₁.setTop (mkF m 39 #[.val (.long y1), .second, .val (.long x2), .second, .val (.long x3), .second, .val (.long x4), .second, .val (.int mode), .val (.long (-18014398509481984 : Int64)), .second, .val (.long (-288230376151711744 : Int64)), .second, .unset, .unset, .unset, .unset, .unset, .unset, .unset, .unset, .unset, .unset, .unset, .unset, .unset, .unset, .unset, .unset, .unset, .unset, .unset] [(.long (x2 &&& (18014398509481983 : Int64))), (.long (y1 &&& (-18014398509481984 : Int64)))])) t
      refine XS.lor X0.here hx rfl (hb hby at_39) rfl ?_
      show Steps p.tables e below (s₁.setTop (mkF m 40 #[.val (.long y1), .second, .val (.long x2), .second, .val (.long x3), .second, .val (.long x4), .second, .val (.int mode), .val (.long (-18014398509481984 : Int64)), .second, .val (.long (-288230376151711744 : Int64)), .second, .unset, .unset, .unset, .unset, .unset, .unset, .unset, .unset, .unset, .unset, .unset, .unset, .unset, .unset, .unset, .unset, .unset, .unset, .unset] [(.long ((y1 &&& (-18014398509481984 : Int64)) ||| (x2 &&& (18014398509481983 : Int64))))])) t
      refine XS.lstoreN X0.here hx rfl (hb hby at_40) rfl (l' := #[.val (.long y1), .second, .val (.long ((y1 &&& (-18014398509481984 : Int64)) ||| (x2 &&& (18014398509481983 : Int64)))), .second, .val (.long x3), .second, .val (.long x4), .second, .val (.int mode), .val (.long (-18014398509481984 : Int64)), .second, .val (.long (-288230376151711744 : Int64)), .second, .unset, .unset, .unset, .unset, .unset, .unset, .unset, .unset, .unset, .unset, .unset, .unset, .unset, .unset, .unset, .unset, .unset, .unset, .unset]) rfl ?_
      show Steps p.tables e below (s₁.setTop (mkF m 41 #[.val (.long y1), .second, .val (.long ((y1 &&& (-18014398509481984 : Int64)) ||| (x2 &&& (18014398509481983 : Int64)))), .second, .val (.long x3), .second, .val (.long x4), .second, .val (.int mode), .val (.long (-18014398509481984 : Int64)), .second, .val (.long (-288230376151711744 : Int64)), .second, .unset, .unset, .unset, .unset, .unset, .unset, .unset, .unset, .unset, .unset, .unset, .unset, .unset, .unset, .unset, .unset, .unset, .unset, .unset] [])) t
      exact (castTop (congrArg (fun zq_ => (mkF m 41 #[.val (.long y1), .second, .val (.long zq_), .second, .val (.long x3), .second, .val (.long x4), .second, .val (.int mode), .val (.long (-18014398509481984 : Int64)), .second, .val (.long (-288230376151711744 : Int64)), .second, .unset, .unset, .unset, .unset, .unset, .unset, .unset, .unset, .unset, .unset, .unset, .unset, .unset, .unset, .unset, .unset, .unset, .unset, .unset] [])) (show ((y1 &&& (-18014398509481984 : Int64)) ||| (x2 &&& (18014398509481983 : Int64))) = (if ((mode &&& (1 : Int32)) = (0 : Int32)) then x2 else ((y1 &&& (-18014398509481984 : Int64)) ||| (x2 &&& (18014398509481983 : Int64)))) by rw [if_neg h6])) k)
  refine OFin.go J5 ?_
  obtain ⟨y2, hy2⟩ : ∃ z : Int64, z = (if ((mode &&& (1 : Int32)) = (0 : Int32)) then x2 else ((y1 &&& (-18014398509481984 : Int64)) ||| (x2 &&& (18014398509481983 : Int64)))) := ⟨_, rfl⟩
  rw [← hy2]
  show OFin p e below _ (s₁.setTop (mkF m 41 #[.val (.long y1), .second, .val (.long y2), .second, .val (.long x3), .second, .val (.long x4), .second, .val (.int mode), .val (.long (-18014398509481984 : Int64)), .second, .val (.long (-288230376151711744 : Int64)), .second, .unset, .unset, .unset, .unset, .unset, .unset, .unset, .unset, .unset, .unset, .unset, .unset, .unset, .unset, .unset, .unset, .unset, .unset, .unset] []))
  have S7 : ∀ t, Steps p.tables e below (s₁.setTop (mkF m 45 #[.val (.long y1), .second, .val (.long y2), .second, .val (.long x3), .second, .val (.long x4), .second, .val (.int mode), .val (.long (-18014398509481984 : Int64)), .second, .val (.long (-288230376151711744 : Int64)), .second, .unset, .unset, .unset, .unset, .unset, .unset, .unset, .unset, .unset, .unset, .unset, .unset, .unset, .unset, .unset, .unset, .unset, .unset, .unset] [(.int (mode &&& (2 : Int32)))])) t → Steps p.tables e below (s₁.setTop (mkF m 41 #[.val (.long y1), .second, .val (.long y2), .second, .val (.long x3), .second, .val (.long x4), .second, .val (.int mode), .val (.long (-18014398509481984 : Int64)), .second, .val (.long (-288230376151711744 : Int64)), .second, .unset, .unset, .unset, .unset, .unset, .unset, .unset, .unset, .unset, .unset, .unset, .unset, .unset, .unset, .unset, .unset, .unset, .unset, .unset] [])) t := by
    intro t k
    show Steps p.tables e below (s₁.setTop (mkF m 41 #[.val (.long y1), .second, .val (.long y2), .second, .val (.long x3), .second, .val (.long x4), .second, .val (.int mode), .val (.long (-18014398509481984 : Int64)), .second, .val (.long (-288230376151711744 : Int64)), .second, .unset, .unset, .unset, .unset, .unset, .unset, .unset, .unset, .unset, .unset, .unset, .unset, .unset, .unset, .unset, .unset, .unset, .unset, .unset] [])) t
    refine XS.iload X0.here hx rfl (hb hby at_41) rfl ?_
    show Steps p.tables e below (s₁.setTop (mkF m 43 #[.val (.long y1), .second, .val (.long y2), .second, .val (.long x3), .second, .val (.long x4), .second, .val (.int mode), .val (.long (-18014398509481984 : Int64)), .second, .val (.long (-288230376151711744 : Int64)), .second, .unset, .unset, .unset, .unset, .unset, .unset, .unset, .unset, .unset, .unset, .unset, .unset, .unset, .unset, .unset, .unset, .unset, .unset, .unset] [(.int mode)])) t
    refine XS.iconst X0.here hx rfl (hb hby at_43) ?_
    show Steps p.tables e below (s₁.setTop (mkF m 44 #[.val (.long y1), .second, .val (.long y2), .second, .val (.long x3), .second, .val (.long x4), .second, .val (.int mode), .val (.long (-18014398509481984 : Int64)), .second, .val (.long (-288230376151711744 : Int64)), .second, .unset, .unset, .unset, .unset, .unset, .unset, .unset, .unset, .unset, .unset, .unset, .unset, .unset, .unset, .unset, .unset, .unset, .unset, .unset] [(.int (2 : Int32)), (.int mode)])) t
    refine XS.iand X0.here hx rfl (hb hby at_44) rfl ?_
    exact k
  refine OFin.go S7 ?_
  have J8 : ∀ t, Steps p.tables e below (s₁.setTop (mkF m 64 #[.val (.long y1), .second, .val (.long y2), .second, .val (.long (if ((mode &&& (2 : Int32)) = (0 : Int32)) then x3 else ((y1 &&& (-18014398509481984 : Int64)) ||| (x3 &&& (18014398509481983 : Int64))))), .second, .val (.long x4), .second, .val (.int mode), .val (.long (-18014398509481984 : Int64)), .second, .val (.long (-288230376151711744 : Int64)), .second, .unset, .unset, .unset, .unset, .unset, .unset, .unset, .unset, .unset, .unset, .unset, .unset, .unset, .unset, .unset, .unset, .unset, .unset, .unset] [])) t → Steps p.tables e below (s₁.setTop (mkF m 45 #[.val (.long y1), .second, .val (.long y2), .second, .val (.long x3), .second, .val (.long x4), .second, .val (.int mode), .val (.long (-18014398509481984 : Int64)), .second, .val (.long (-288230376151711744 : Int64)), .second, .unset, .unset, .unset, .unset, .unset, .unset, .unset, .unset, .unset, .unset, .unset, .unset, .unset, .unset, .unset, .unset, .unset, .unset, .unset] [(.int (mode &&& (2 : Int32)))])) t := by
    intro t k
    show Steps p.tables e below (s₁.setTop (mkF m 45 #[.val (.long y1), .second, .val (.long y2), .second, .val (.long x3), .second, .val (.long x4), .second, .val (.int mode), .val (.long (-18014398509481984 : Int64)), .second, .val (.long (-288230376151711744 : Int64)), .second, .unset, .unset, .unset, .unset, .unset, .unset, .unset, .unset, .unset, .unset, .unset, .unset, .unset, .unset, .unset, .unset, .unset, .unset, .unset] [(.int (mode &&& (2 : Int32)))])) t
    by_cases h9 : ((mode &&& (2 : Int32)) = (0 : Int32))
    · refine XS.ifYes X0.here hx rfl (pc0 := 45) (pc' := 64) rfl (hb hby at_45) rfl ((if0 _ _).trans (teq h9).1) (by decide) (by decide) ?_
      show Steps p.tables e below (s₁.setTop (mkF m 64 #[.val (.long y1), .second, .val (.long y2), .second, .val (.long x3), .second, .val (.long x4), .second, .val (.int mode), .val (.long (-18014398509481984 : Int64)), .second, .val (.long (-288230376151711744 : Int64)), .second, .unset, .unset, .unset, .unset, .unset, .unset, .unset, .unset, .unset, .unset, .unset, .unset, .unset, .unset, .unset, .unset, .unset, .unset, .unset] [])) t
      exact (castTop (congrArg (fun zq_ => (mkF m 64 #[.val (.long y1), .second, .val (.long y2), .second, .val (.long zq_), .second, .val (.long x4), .second, .val (.int mode), .val (.long (-18014398509481984 : Int64)), .second, .val (.long (-288230376151711744 : Int64)), .second, .unset, .unset, .unset, .unset, .unset, .unset, .unset, .unset, .unset, .unset, .unset, .unset, .unset, .unset, .unset, .unset, .unset, .unset, .unset] [])) (show x3 = (if ((mode &&& (2 : Int32)) = (0 : Int32)) then x3 else ((y1 &&& (-18014398509481984 : Int64)) ||| (x3 &&& (18014398509481983 : Int64)))) by rw [if_pos h9])) k)
    · refine XS.ifNo X0.here hx rfl (hb hby at_45) rfl ((if0 _ _).trans (feq h9).1) ?_
      show Steps p.tables e below (s₁.setTop (mkF m 48 #[.val (.long y1), .second, .val (.long y2), .second, .val (.long x3), .second, .val (.long x4), .second, .val (.int mode), .val (.long (-18014398509481984 : Int64)), .second, .val (.long (-288230376151711744 : Int64)), .second, .unset, .unset, .unset, .unset, .unset, .unset, .unset, .unset, .unset, .unset, .unset, .unset, .unset, .unset, .unset, .unset, .unset, .unset, .unset] [])) t
      refine XS.lloadN X0.here hx rfl (hb hby at_48) rfl ?_
      show Steps p.tables e below (s₁.setTop (mkF m 49 #[.val (.long y1), .second, .val (.long y2), .second, .val (.long x3), .second, .val (.long x4), .second, .val (.int mode), .val (.long (-18014398509481984 : Int64)), .second, .val (.long (-288230376151711744 : Int64)), .second, .unset, .unset, .unset, .unset, .unset, .unset, .unset, .unset, .unset, .unset, .unset, .unset, .unset, .unset, .unset, .unset, .unset, .unset, .unset] [(.long y1)])) t
      refine XS.lload X0.here hx rfl (hb hby at_49) rfl ?_
      show Steps p.tables e below (s₁.setTop (mkF m 51 #[.val (.long y1), .second, .val (.long y2), .second, .val (.long x3), .second, .val (.long x4), .second, .val (.int mode), .val (.long (-18014398509481984 : Int64)), .second, .val (.long (-288230376151711744 : Int64)), .second, .unset, .unset, .unset, .unset, .unset, .unset, .unset, .unset, .unset, .unset, .unset, .unset, .unset, .unset, .unset, .unset, .unset, .unset, .unset] [(.long (-18014398509481984 : Int64)), (.long y1)])) t
      refine XS.land X0.here hx rfl (hb hby at_51) rfl ?_
      show Steps p.tables e below (s₁.setTop (mkF m 52 #[.val (.long y1), .second, .val (.long y2), .second, .val (.long x3), .second, .val (.long x4), .second, .val (.int mode), .val (.long (-18014398509481984 : Int64)), .second, .val (.long (-288230376151711744 : Int64)), .second, .unset, .unset, .unset, .unset, .unset, .unset, .unset, .unset, .unset, .unset, .unset, .unset, .unset, .unset, .unset, .unset, .unset, .unset, .unset] [(.long (y1 &&& (-18014398509481984 : Int64)))])) t
      refine XS.lload X0.here hx rfl (hb hby at_52) rfl ?_
      show Steps p.tables e below (s₁.setTop (mkF m 54 #[.val (.long y1), .second, .val (.long y2), .second, .val (.long x3), .second, .val (.long x4), .second, .val (.int mode), .val (.long (-18014398509481984 : Int64)), .second, .val (.long (-288230376151711744 : Int64)), .second, .unset, .unset, .unset, .unset, .unset, .unset, .unset, .unset, .unset, .unset, .unset, .unset, .unset, .unset, .unset, .unset, .unset, .unset, .unset] [(.long x3), (.long (y1 &&& (-18014398509481984 : Int64)))])) t
      refine XS.lload X0.here hx rfl (hb hby at_54) rfl ?_
      show Steps p.tables e below (s₁.setTop (mkF m 56 #[.val (.long y1), .second, .val (.long y2), .second, .val (.long x3), .second, .val (.long x4), .second, .val (.int mode), .val (.long (-18014398509481984 : Int64)), .second, .val (.long (-288230376151711744 : Int64)), .second, .unset, .unset, .unset, .unset, .unset, .unset, .unset, .unset, .unset, .unset, .unset, .unset, .unset, .unset, .unset, .unset, .unset, .unset, .unset] [(.long (-18014398509481984 : Int64)), (.long x3), (.long (y1 &&& (-18014398509481984 : Int64)))])) t
      refine X0.ldc2Long hx hown (mvT hZ (hw _ (List.mem_of_getElem? (i := 2) rfl))) (g := (mkF m 56 #[.val (.long y1), .second, .val (.long y2), .second, .val (.long x3), .second, .val (.long x4), .second, .val (.int mode), .val (.long (-18014398509481984 : Int64)), .second, .val (.long (-288230376151711744 : Int64)), .second, .unset, .unset, .unset, .unset, .unset, .unset, .unset, .unset, .unset, .unset, .unset, .unset, .unset, .unset, .unset, .unset, .unset, .unset, .unset] [(.long (-18014398509481984 : Int64)), (.long x3), (.long (y1 &&& (-18014398509481984 : Int64)))])) rfl (hb hby at_56) _ ?_
      show Steps p.tables e below (s₁.setTop (mkF m 59 #[.val (.long y1), .second, .val (.long y2), .second, .val (.long x3), .second, .val (.long x4), .second, .val (.int mode), .val (.long (-18014398509481984 : Int64)), .second, .val (.long (-288230376151711744 : Int64)), .second, .unset, .unset, .unset, .unset, .unset, .unset, .unset, .unset, .unset, .unset, .unset, .unset, .unset, .unset, .unset, .unset, .unset, .unset, .unset] [(.long (-1 : Int64)), (.long (-18014398509481984 : Int64)), (.long x3), (.long (y1 &&& (-18014398509481984 : Int64)))])) t
      refine XS.lxor X0.here hx rfl (hb hby at_59) rfl ?_
      show Steps p.tables e below (s₁.setTop (mkF m 60 #[.val (.long y1), .second, .val (.long y2), .second, .val (.long x3), .second, .val (.long x4), .second, .val (.int mode), .val (.long (-18014398509481984 : Int64)), .second, .val (.long (-288230376151711744 : Int64)), .second, .unset, .unset, .unset, .unset, .unset, .unset, .unset, .unset, .unset, .unset, .unset, .unset, .unset, .unset, .unset, .unset, .unset, .unset, .unset] [(.long (18014398509481983 : Int64)), (.long x3), (.long (y1 &&& (-18014398509481984 : Int64)))])) t
      refine XS.land X0.here hx rfl (hb hby at_60) rfl ?_
      show Steps p.tables e below (s₁.setTop (mkF m 61 #[.val (.long y1), .second, .val (.long y2), .second, .val (.long x3), .second, .val (.long x4), .second, .val (.int mode), .val (.long (-18014398509481984 : Int64)), .second, .val (.long (-288230376151711744 : Int64)), .second, .unset, .unset, .unset, .unset, .unset, .unset, .unset, .unset, .unset, .unset, .unset, .unset, .unset, .unset, .unset, .unset, .unset, .unset, .unset] [(.long (x3 &&& (18014398509481983 : Int64))), (.long (y1 &&& (-18014398509481984 : Int64)))])) t
      refine XS.lor X0.here hx rfl (hb hby at_61) rfl ?_
      show Steps p.tables e below (s₁.setTop (mkF m 62 #[.val (.long y1), .second, .val (.long y2), .second, .val (.long x3), .second, .val (.long x4), .second, .val (.int mode), .val (.long (-18014398509481984 : Int64)), .second, .val (.long (-288230376151711744 : Int64)), .second, .unset, .unset, .unset, .unset, .unset, .unset, .unset, .unset, .unset, .unset, .unset, .unset, .unset, .unset, .unset, .unset, .unset, .unset, .unset] [(.long ((y1 &&& (-18014398509481984 : Int64)) ||| (x3 &&& (18014398509481983 : Int64))))])) t
      refine XS.lstore X0.here hx rfl (hb hby at_62) rfl (l' := #[.val (.long y1), .second, .val (.long y2), .second, .val (.long ((y1 &&& (-18014398509481984 : Int64)) ||| (x3 &&& (18014398509481983 : Int64)))), .second, .val (.long x4), .second, .val (.int mode), .val (.long (-18014398509481984 : Int64)), .second, .val (.long (-288230376151711744 : Int64)), .second, .unset, .unset, .unset, .unset, .unset, .unset, .unset, .unset, .unset, .unset, .unset, .unset, .unset, .unset, .unset, .unset, .unset, .unset, .unset]) rfl ?_
      show Steps p.tables e below (s₁.setTop (mkF m 64 #[.val (.long y1), .second, .val (.long y2), .second, .val (.long ((y1 &&& (-18014398509481984 : Int64)) ||| (x3 &&& (18014398509481983 : Int64)))), .second, .val (.long x4), .second, .val (.int mode), .val (.long (-18014398509481984 : Int64)), .second, .val (.long (-288230376151711744 : Int64)), .second, .unset, .unset, .unset, .unset, .unset, .unset, .unset, .unset, .unset, .unset, .unset, .unset, .unset, .unset, .unset, .unset, .unset, .unset, .unset] [])) t
      exact (castTop (congrArg (fun zq_ => (mkF m 64 #[.val (.long y1), .second, .val (.long y2), .second, .val (.long zq_), .second, .val (.long x4), .second, .val (.int mode), .val (.long (-18014398509481984 : Int64)), .second, .val (.long (-288230376151711744 : Int64)), .second, .unset, .unset, .unset, .unset, .unset, .unset, .unset, .unset, .unset, .unset, .unset, .unset, .unset, .unset, .unset, .unset, .unset, .unset, .unset] [])) (show ((y1 &&& (-18014398509481984 : Int64)) ||| (x3 &&& (18014398509481983 : Int64))) = (if ((mode &&& (2 : Int32)) = (0 : Int32)) then x3 else ((y1 &&& (-18014398509481984 : Int64)) ||| (x3 &&& (18014398509481983 : Int64)))) by rw [if_neg h9])) k)
  refine OFin.go J8 ?_
  obtain ⟨y3, hy3⟩ : ∃ z : Int64, z = (if ((mode &&& (2 : Int32)) = (0 : Int32)) then x3 else ((y1 &&& (-18014398509481984 : Int64)) ||| (x3 &&& (18014398509481983 : Int64)))) := ⟨_, rfl⟩
  rw [← hy3]
  show OFin p e below _ (s₁.setTop (mkF m 64 #[.val (.long y1), .second, .val (.long y2), .second, .val (.long y3), .second, .val (.long x4), .second, .val (.int mode), .val (.long (-18014398509481984 : Int64)), .second, .val (.long (-288230376151711744 : Int64)), .second, .unset, .unset, .unset, .unset, .unset, .unset, .unset, .unset, .unset, .unset, .unset, .unset, .unset, .unset, .unset, .unset, .unset, .unset, .unset] []))
  have S10 : ∀ t, Steps p.tables e below (s₁.setTop (mkF m 69 #[.val (.long y1), .second, .val (.long y2), .second, .val (.long y3), .second, .val (.long x4), .second, .val (.int mode), .val (.long (-18014398509481984 : Int64)), .second, .val (.long (-288230376151711744 : Int64)), .second, .unset, .unset, .unset, .unset, .unset, .unset, .unset, .unset, .unset, .unset, .unset, .unset, .unset, .unset, .unset, .unset, .unset, .unset, .unset] [(.int (mode &&& (64 : Int32)))])) t → Steps p.tables e below (s₁.setTop (mkF m 64 #[.val (.long y1), .second, .val (.long y2), .second, .val (.long y3), .second, .val (.long x4), .second, .val (.int mode), .val (.long (-18014398509481984 : Int64)), .second, .val (.long (-288230376151711744 : Int64)), .second, .unset, .unset, .unset, .unset, .unset, .unset, .unset, .unset, .unset, .unset, .unset, .unset, .unset, .unset, .unset, .unset, .unset, .unset, .unset] [])) t := by
    intro t k
    show Steps p.tables e below (s₁.setTop (mkF m 64 #[.val (.long y1), .second, .val (.long y2), .second, .val (.long y3), .second, .val (.long x4), .second, .val (.int mode), .val (.long (-18014398509481984 : Int64)), .second, .val (.long (-288230376151711744 : Int64)), .second, .unset, .unset, .unset, .unset, .unset, .unset, .unset, .unset, .unset, .unset, .unset, .unset, .unset, .unset, .unset, .unset, .unset, .unset, .unset] [])) t
    refine XS.iload X0.here hx rfl (hb hby at_64) rfl ?_
    show Steps p.tables e below (s₁.setTop (mkF m 66 #[.val (.long y1), .second, .val (.long y2), .second, .val (.long y3), .second, .val (.long x4), .second, .val (.int mode), .val (.long (-18014398509481984 : Int64)), .second, .val (.long (-288230376151711744 : Int64)), .second, .unset, .unset, .unset, .unset, .unset, .unset, .unset, .unset, .unset, .unset, .unset, .unset, .unset, .unset, .unset, .unset, .unset, .unset, .unset] [(.int mode)])) t
    refine XS.bipush X0.here hx rfl (hb hby at_66) ?_
    show Steps p.tables e below (s₁.setTop (mkF m 68 #[.val (.long y1), .second, .val (.long y2), .second, .val (.long y3), .second, .val (.long x4), .second, .val (.int mode), .val (.long (-18014398509481984 : Int64)), .second, .val (.long (-288230376151711744 : Int64)), .second, .unset, .unset, .unset, .unset, .unset, .unset, .unset, .unset, .unset, .unset, .unset, .unset, .unset, .unset, .unset, .unset, .unset, .unset, .unset] [(.int (64 : Int32)), (.int mode)])) t
    refine XS.iand X0.here hx rfl (hb hby at_68) rfl ?_
    exact k
  refine OFin.go S10 ?_
  have J11 : ∀ t, Steps p.tables e below (s₁.setTop (mkF m 88 #[.val (.long y1), .second, .val (.long y2), .second, .val (.long (if ((mode &&& (64 : Int32)) = (0 : Int32)) then y3 else ((y1 &&& (-288230376151711744 : Int64)) ||| (y3 &&& (288230376151711743 : Int64))))), .second, .val (.long x4), .second, .val (.int mode), .val (.long (-18014398509481984 : Int64)), .second, .val (.long (-288230376151711744 : Int64)), .second, .unset, .unset, .unset, .unset, .unset, .unset, .unset, .unset, .unset, .unset, .unset, .unset, .unset, .unset, .unset, .unset, .unset, .unset, .unset] [])) t → Steps p.tables e below (s₁.setTop (mkF m 69 #[.val (.long y1), .second, .val (.long y2), .second, .val (.long y3), .second, .val (.long x4), .second, .val (.int mode), .val (.long (-18014398509481984 : Int64)), .second, .val (.long (-288230376151711744 : Int64)), .second, .unset, .unset, .unset, .unset, .unset, .unset, .unset, .unset, .unset, .unset, .unset, .unset, .unset, .unset, .unset, .unset, .unset, .unset, .unset] [(.int (mode &&& (64 : Int32)))])) t := by
    intro t k
    show Steps p.tables e below (s₁.setTop (mkF m 69 #[.val (.long y1), .second, .val (.long y2), .second, .val (.long y3), .second, .val (.long x4), .second, .val (.int mode), .val (.long (-18014398509481984 : Int64)), .second, .val (.long (-288230376151711744 : Int64)), .second, .unset, .unset, .unset, .unset, .unset, .unset, .unset, .unset, .unset, .unset, .unset, .unset, .unset, .unset, .unset, .unset, .unset, .unset, .unset] [(.int (mode &&& (64 : Int32)))])) t
    by_cases h12 : ((mode &&& (64 : Int32)) = (0 : Int32))
    · refine XS.ifYes X0.here hx rfl (pc0 := 69) (pc' := 88) rfl (hb hby at_69) rfl ((if0 _ _).trans (teq h12).1) (by decide) (by decide) ?_
      show Steps p.tables e below (s₁.setTop (mkF m 88 #[.val (.long y1), .second, .val (.long y2), .second, .val (.long y3), .second, .val (.long x4), .second, .val (.int mode), .val (.long (-18014398509481984 : Int64)), .second, .val (.long (-288230376151711744 : Int64)), .second, .unset, .unset, .unset, .unset, .unset, .unset, .unset, .unset, .unset, .unset, .unset, .unset, .unset, .unset, .unset, .unset, .unset, .unset, .unset] [])) t
      exact (castTop (congrArg (fun zq_ => (mkF m 88 #[.val (.long y1), .second, .val (.long y2), .second, .val (.long zq_), .second, .val (.long x4), .second, .val (.int mode), .val (.long (-18014398509481984 : Int64)), .second, .val (.long (-288230376151711744 : Int64)), .second, .unset, .unset, .unset, .unset, .unset, .unset, .unset, .unset, .unset, .unset, .unset, .unset, .unset, .unset, .unset, .unset, .unset, .unset, .unset] [])) (show y3 = (if ((mode &&& (64 : Int32)) = (0 : Int32)) then y3 else ((y1 &&& (-288230376151711744 : Int64)) ||| (y3 &&& (288230376151711743 : Int64)))) by rw [if_pos h12])) k)
    · refine XS.ifNo X0.here hx rfl (hb hby at_69) rfl ((if0 _ _).trans (feq h12).1) ?_
      show Steps p.tables e below (s₁.setTop (mkF m 72 #[.val (.long y1), .second, .val (.long y2), .second, .val (.long y3), .second, .val (.long x4), .second, .val (.int mode), .val (.long (-18014398509481984 : Int64)), .second, .val (.long (-288230376151711744 : Int64)), .second, .unset, .unset, .unset, .unset, .unset, .unset, .unset, .unset, .unset, .unset, .unset, .unset, .unset, .unset, .unset, .unset, .unset, .unset, .unset] [])) t
      refine XS.lloadN X0.here hx rfl (hb hby at_72) rfl ?_
      show Steps p.tables e below (s₁.setTop (mkF m 73 #[.val (.long y1), .second, .val (.long y2), .second, .val (.long y3), .second, .val (.long x4), .second, .val (.int mode), .val (.long (-18014398509481984 : Int64)), .second, .val (.long (-288230376151711744 : Int64)), .second, .unset, .unset, .unset, .unset, .unset, .unset, .unset, .unset, .unset, .unset, .unset, .unset, .unset, .unset, .unset, .unset, .unset, .unset, .unset] [(.long y1)])) t
      refine XS.lload X0.here hx rfl (hb hby at_73) rfl ?_
      show Steps p.tables e below (s₁.setTop (mkF m 75 #[.val (.long y1), .second, .val (.long y2), .second, .val (.long y3), .second, .val (.long x4), .second, .val (.int mode), .val (.long (-18014398509481984 : Int64)), .second, .val (.long (-288230376151711744 : Int64)), .second, .unset, .unset, .unset, .unset, .unset, .unset, .unset, .unset, .unset, .unset, .unset, .unset, .unset, .unset, .unset, .unset, .unset, .unset, .unset] [(.long (-288230376151711744 : Int64)), (.long y1)])) t
      refine XS.land X0.here hx rfl (hb hby at_75) rfl ?_
      show Steps p.tables e below (s₁.setTop (mkF m 76 #[.val (.long y1), .second, .val (.long y2), .second, .val (.long y3), .second, .val (.long x4), .second, .val (.int mode), .val (.long (-18014398509481984 : Int64)), .second, .val (.long (-288230376151711744 : Int64)), .second, .unset, .unset, .unset, .unset, .unset, .unset, .unset, .unset, .unset, .unset, .unset, .unset, .unset, .unset, .unset, .unset, .unset, .unset, .unset] [(.long (y1 &&& (-288230376151711744 : Int64)))])) t
      refine XS.lload X0.here hx rfl (hb hby at_76) rfl ?_
      show Steps p.tables e below (s₁.setTop (mkF m 78 #[.val (.long y1), .second, .val (.long y2), .second, .val (.long y3), .second, .val (.long x4), .second, .val (.int mode), .val (.long (-18014398509481984 : Int64)), .second, .val (.long (-288230376151711744 : Int64)), .second, .unset, .unset, .unset, .unset, .unset, .unset, .unset, .unset, .unset, .unset, .unset, .unset, .unset, .unset, .unset, .unset, .unset, .unset, .unset] [(.long y3), (.long (y1 &&& (-288230376151711744 : Int64)))])) t
      refine XS.lload X0.here hx rfl (hb hby at_78) rfl ?_
      show Steps p.tables e below (s₁.setTop (mkF m 80 #[.val (.long y1), .second, .val (.long y2), .second, .val (.long y3), .second, .val (.long x4), .second, .val (.int mode), .val (.long (-18014398509481984 : Int64)), .second, .val (.long (-288230376151711744 : Int64)), .second, .unset, .unset, .unset, .unset, .unset, .unset, .unset, .unset, .unset, .unset, .unset, .unset, .unset, .unset, .unset, .unset, .unset, .unset, .unset] [(.long (-288230376151711744 : Int64)), (.long y3), (.long (y1 &&& (-288230376151711744 : Int64)))])) t
      refine X0.ldc2Long hx hown (mvT hZ (hw _ (List.mem_of_getElem? (i := 2) rfl))) (g := (mkF m 80 #[.val (.long y1), .second, .val (.long y2), .second, .val (.long y3), .second, .val (.long x4), .second, .val (.int mode), .val (.long (-18014398509481984 : Int64)), .second, .val (.long (-288230376151711744 : Int64)), .second, .unset, .unset, .unset, .unset, .unset, .unset, .unset, .unset, .unset, .unset, .unset, .unset, .unset, .unset, .unset, .unset, .unset, .unset, .unset] [(.long (-288230376151711744 : Int64)), (.long y3), (.long (y1 &&& (-288230376151711744 : Int64)))])) rfl (hb hby at_80) _ ?_
      show Steps p.tables e below (s₁.setTop (mkF m 83 #[.val (.long y1), .second, .val (.long y2), .second, .val (.long y3), .second, .val (.long x4), .second, .val (.int mode), .val (.long (-18014398509481984 : Int64)), .second, .val (.long (-288230376151711744 : Int64)), .second, .unset, .unset, .unset, .unset, .unset, .unset, .unset, .unset, .unset, .unset, .unset, .unset, .unset, .unset, .unset, .unset, .unset, .unset, .unset] [(.long (-1 : Int64)), (.long (-288230376151711744 : Int64)), (.long y3), (.long (y1 &&& (-288230376151711744 : Int64)))])) t
      refine XS.lxor X0.here hx rfl (hb hby at_83) rfl ?_
      show Steps p.tables e below (s₁.setTop (mkF m 84 #[.val (.long y1), .second, .val (.long y2), .second, .val (.long y3), .second, .val (.long x4), .second, .val (.int mode), .val (.long (-18014398509481984 : Int64)), .second, .val (.long (-288230376151711744 : Int64)), .second, .unset, .unset, .unset, .unset, .unset, .unset, .unset, .unset, .unset, .unset, .unset, .unset, .unset, .unset, .unset, .unset, .unset, .unset, .unset] [(.long (288230376151711743 : Int64)), (.long y3), (.long (y1 &&& (-288230376151711744 : Int64)))])) t
      refine XS.land X0.here hx rfl (hb hby at_84) rfl ?_
      show Steps p.tables e below (s₁.setTop (mkF m 85 #[.val (.long y1), .second, .val (.long y2), .second, .val (.long y3), .second, .val (.long x4), .second, .val (.int mode), .val (.long (-18014398509481984 : Int64)), .second, .val (.long (-288230376151711744 : Int64)), .second, .unset, .unset, .unset, .unset, .unset, .unset, .unset, .unset, .unset, .unset, .unset, .unset, .unset, .unset, .unset, .unset, .unset, .unset, .unset] [(.long (y3 &&& (288230376151711743 : Int64))), (.long (y1 &&& (-288230376151711744 : Int64)))])) t
      refine XS.lor X0.here hx rfl (hb hby at_85) rfl ?_
      show Steps p.tables e below (s₁.setTop (mkF m 86 #[.val (.long y1), .second, .val (.long y2), .second, .val (.long y3), .second, .val (.long x4), .second, .val (.int mode), .val (.long (-18014398509481984 : Int64)), .second, .val (.long (-288230376151711744 : Int64)), .second, .unset, .unset, .unset, .unset, .unset, .unset, .unset, .unset, .unset, .unset, .unset, .unset, .unset, .unset, .unset, .unset, .unset, .unset, .unset] [(.long ((y1 &&& (-288230376151711744 : Int64)) ||| (y3 &&& (288230376151711743 : Int64))))])) t
      refine XS.lstore X0.here hx rfl (hb hby at_86) rfl (l' := #[.val (.long y1), .second, .val (.long y2), .second, .val (.long ((y1 &&& (-288230376151711744 : Int64)) ||| (y3 &&& (288230376151711743 : Int64)))), .second, .val (.long x4), .second, .val (.int mode), .val (.long (-18014398509481984 : Int64)), .second, .val (.long (-288230376151711744 : Int64)), .second, .unset, .unset, .unset, .unset, .unset, .unset, .unset, .unset, .unset, .unset, .unset, .unset, .unset, .unset, .unset, .unset, .unset, .unset, .unset]) rfl ?_
      show Steps p.tables e below (s₁.setTop (mkF m 88 #[.val (.long y1), .second, .val (.long y2), .second, .val (.long ((y1 &&& (-288230376151711744 : Int64)) ||| (y3 &&& (288230376151711743 : Int64)))), .second, .val (.long x4), .second, .val (.int mode), .val (.long (-18014398509481984 : Int64)), .second, .val (.long (-288230376151711744 : Int64)), .second, .unset, .unset, .unset, .unset, .unset, .unset, .unset, .unset, .unset, .unset, .unset, .unset, .unset, .unset, .unset, .unset, .unset, .unset, .unset] [])) t
      exact (castTop (congrArg (fun zq_ => (mkF m 88 #[.val (.long y1), .second, .val (.long y2), .second, .val (.long zq_), .second, .val (.long x4), .second, .val (.int mode), .val (.long (-18014398509481984 : Int64)), .second, .val (.long (-288230376151711744 : Int64)), .second, .unset, .unset, .unset, .unset, .unset, .unset, .unset, .unset, .unset, .unset, .unset, .unset, .unset, .unset, .unset, .unset, .unset, .unset, .unset] [])) (show ((y1 &&& (-288230376151711744 : Int64)) ||| (y3 &&& (288230376151711743 : Int64))) = (if ((mode &&& (64 : Int32)) = (0 : Int32)) then y3 else ((y1 &&& (-288230376151711744 : Int64)) ||| (y3 &&& (288230376151711743 : Int64)))) by rw [if_neg h12])) k)
  refine OFin.go J11 ?_
  obtain ⟨z3, hz3⟩ : ∃ z : Int64, z = (if ((mode &&& (64 : Int32)) = (0 : Int32)) then y3 else ((y1 &&& (-288230376151711744 : Int64)) ||| (y3 &&& (288230376151711743 : Int64)))) := ⟨_, rfl⟩
  rw [← hz3]
  show OFin p e below _ (s₁.setTop (mkF m 88 #[.val (.long y1), .second, .val (.long y2), .second, .val (.long z3), .second, .val (.long x4), .second, .val (.int mode), .val (.long (-18014398509481984 : Int64)), .second, .val (.long (-288230376151711744 : Int64)), .second, .unset, .unset, .unset, .unset, .unset, .unset, .unset, .unset, .unset, .unset, .unset, .unset, .unset, .unset, .unset, .unset, .unset, .unset, .unset] []))
  have S13 : ∀ t, Steps p.tables e below (s₁.setTop (mkF m 93 #[.val (.long y1), .second, .val (.long y2), .second, .val (.long z3), .second, .val (.long x4), .second, .val (.int mode), .val (.long (-18014398509481984 : Int64)), .second, .val (.long (-288230376151711744 : Int64)), .second, .unset, .unset, .unset, .unset, .unset, .unset, .unset, .unset, .unset, .unset, .unset, .unset, .unset, .unset, .unset, .unset, .unset, .unset, .unset] [(.int (mode &&& (32 : Int32)))])) t → Steps p.tables e below (s₁.setTop (mkF m 88 #[.val (.long y1), .second, .val (.long y2), .second, .val (.long z3), .second, .val (.long x4), .second, .val (.int mode), .val (.long (-18014398509481984 : Int64)), .second, .val (.long (-288230376151711744 : Int64)), .second, .unset, .unset, .unset, .unset, .unset, .unset, .unset, .unset, .unset, .unset, .unset, .unset, .unset, .unset, .unset, .unset, .unset, .unset, .unset] [])) t := by
    intro t k
    show Steps p.tables e below (s₁.setTop (mkF m 88 #[.val (.long y1), .second, .val (.long y2), .second, .val (.long z3), .second, .val (.long x4), .second, .val (.int mode), .val (.long (-18014398509481984 : Int64)), .second, .val (.long (-288230376151711744 : Int64)), .second, .unset, .unset, .unset, .unset, .unset, .unset, .unset, .unset, .unset, .unset, .unset, .unset, .unset, .unset, .unset, .unset, .unset, .unset, .unset] [])) t
    refine XS.iload X0.here hx rfl (hb hby at_88) rfl ?_
    show Steps p.tables e below (s₁.setTop (mkF m 90 #[.val (.long y1), .second, .val (.long y2), .second, .val (.long z3), .second, .val (.long x4), .second, .val (.int mode), .val (.long (-18014398509481984 : Int64)), .second, .val (.long (-288230376151711744 : Int64)), .second, .unset, .unset, .unset, .unset, .unset, .unset, .unset, .unset, .unset, .unset, .unset, .unset, .unset, .unset, .unset, .unset, .unset, .unset, .unset] [(.int mode)])) t
    refine XS.bipush X0.here hx rfl (hb hby at_90) ?_
    show Steps p.tables e below (s₁.setTop (mkF m 92 #[.val (.long y1), .second, .val (.long y2), .second, .val (.long z3), .second, .val (.long x4), .second, .val (.int mode), .val (.long (-18014398509481984 : Int64)), .second, .val (.long (-288230376151711744 : Int64)), .second, .unset, .unset, .unset, .unset, .unset, .unset, .unset, .unset, .unset, .unset, .unset, .unset, .unset, .unset, .unset, .unset, .unset, .unset, .unset] [(.int (32 : Int32)), (.int mode)])) t
    refine XS.iand X0.here hx rfl (hb hby at_92) rfl ?_
    exact k
  refine OFin.go S13 ?_
  have J14 : ∀ t, Steps p.tables e below (s₁.setTop (mkF m 112 #[.val (.long y1), .second, .val (.long y2), .second, .val (.long z3), .second, .val (.long (if ((mode &&& (32 : Int32)) = (0 : Int32)) then x4 else ((y1 &&& (-18014398509481984 : Int64)) ||| (x4 &&& (18014398509481983 : Int64))))), .second, .val (.int mode), .val (.long (-18014398509481984 : Int64)), .second, .val (.long (-288230376151711744 : Int64)), .second, .unset, .unset, .unset, .unset, .unset, .unset, .unset, .unset, .unset, .unset, .unset, .unset, .unset, .unset, .unset, .unset, .unset, .unset, .unset] [])) t → Steps p.tables e below (s₁.setTop (mkF m 93 #[.val (.long y1), .second, .val (.long y2), .second, .val (.long z3), .second, .val (.long x4), .second, .val (.int mode), .val (.long (-18014398509481984 : Int64)), .second, .val (.long (-288230376151711744 : Int64)), .second, .unset, .unset, .unset, .unset, .unset, .unset, .unset, .unset, .unset, .unset, .unset, .unset, .unset, .unset, .unset, .unset, .unset, .unset, .unset] [(.int (mode &&& (32 : Int32)))])) t := by
    intro t k
    show Steps p.tables e below (s₁.setTop (mkF m 93 #[.val (.long y1), .second, .val (.long y2), .second, .val (.long z3), .second, .val (.long x4), .second, .val (.int mode), .val (.long (-18014398509481984 : Int64)), .second, .val (.long (-288230376151711744 : Int64)), .second, .unset, .unset, .unset, .unset, .unset, .unset, .unset, .unset, .unset, .unset, .unset, .unset, .unset, .unset, .unset, .unset, .unset, .unset, .unset] [(.int (mode &&& (32 : Int32)))])) t
    by_cases h15 : ((mode &&& (32 : Int32)) = (0 : Int32))
    · refine XS.ifYes X0.here hx rfl (pc0 := 93) (pc' := 112) rfl (hb hby at_93) rfl ((if0 _ _).trans (teq h15).1) (by decide) (by decide) ?_
      show Steps p.tables e below (s₁.setTop (mkF m 112 #[.val (.long y1), .second, .val (.long y2), .second, .val (.long z3), .second, .val (.long x4), .second, .val (.int mode), .val (.long (-18014398509481984 : Int64)), .second, .val (.long (-288230376151711744 : Int64)), .second, .unset, .unset, .unset, .unset, .unset, .unset, .unset, .unset, .unset, .unset, .unset, .unset, .unset, .unset, .unset, .unset, .unset, .unset, .unset] [])) t
      exact (castTop (congrArg (fun zq_ => (mkF m 112 #[.val (.long y1), .second, .val (.long y2), .second, .val (.long z3), .second, .val (.long zq_), .second, .val (.int mode), .val (.long (-18014398509481984 : Int64)), .second, .val (.long (-288230376151711744 : Int64)), .second, .unset, .unset, .unset, .unset, .unset, .unset, .unset, .unset, .unset, .unset, .unset, .unset, .unset, .unset, .unset, .unset, .unset, .unset, .unset] [])) (show x4 = (if ((mode &&& (32 : Int32)) = (0 : Int32)) then x4 else ((y1 &&& (-18014398509481984 : Int64)) ||| (x4 &&& (18014398509481983 : Int64)))) by rw [if_pos h15])) k)
    · refine XS.ifNo X0.here hx rfl (hb hby at_93) rfl ((if0 _ _).trans (feq h15).1) ?_
      show Steps p.tables e below (s₁.setTop (mkF m 96 #[.val (.long y1), .second, .val (.long y2), .second, .val (.long z3), .second, .val (.long x4), .second, .val (.int mode), .val (.long (-18014398509481984 : Int64)), .second, .val (.long (-288230376151711744 : Int64)), .second, .unset, .unset, .unset, .unset, .unset, .unset, .unset, .unset, .unset, .unset, .unset, .unset, .unset, .unset, .unset, .unset, .unset, .unset, .unset] [])) t
      refine XS.lloadN X0.here hx rfl (hb hby at_96) rfl ?_
      show Steps p.tables e below (s₁.setTop (mkF m 97 #[.val (.long y1), .second, .val (.long y2), .second, .val (.long z3), .second, .val (.long x4), .second, .val (.int mode), .val (.long (-18014398509481984 : Int64)), .second, .val (.long (-288230376151711744 : Int64)), .second, .unset, .unset, .unset, .unset, .unset, .unset, .unset, .unset, .unset, .unset, .unset, .unset, .unset, .unset, .unset, .unset, .unset, .unset, .unset] [(.long y1)])) t
      refine XS.lload X0.here hx rfl (hb hby at_97) rfl ?_
      show Steps p.tables e below (s₁.setTop (mkF m 99 #[.val (.long y1), .second, .val (.long y2), .second, .val (.long z3), .second, .val (.long x4), .second, .val (.int mode), .val (.long (-18014398509481984 : Int64)), .second, .val (.long (-288230376151711744 : Int64)), .second, .unset, .unset, .unset, .unset, .unset, .unset, .unset, .unset, .unset, .unset, .unset, .unset, .unset, .unset, .unset, .unset, .unset, .unset, .unset] [(.long (-18014398509481984 : Int64)), (.long y1)])) t
      refine XS.land X0.here hx rfl (hb hby at_99) rfl ?_
      show Steps p.tables e below (s₁.setTop (mkF m 100 #[.val (.long y1), .second, .val (.long y2), .second, .val (.long z3), .second, .val (.long x4), .second, .val (.int mode), .val (.long (-18014398509481984 : Int64)), .second, .val (.long (-288230376151711744 : Int64)), .second, .unset, .unset, .unset, .unset, .unset, .unset, .unset, .unset, .unset, .unset, .unset, .unset, .unset, .unset, .unset, .unset, .unset, .unset, .unset] [(.long (y1 &&& (-18014398509481984 : Int64)))])) t
      refine XS.lload X0.here hx rfl (hb hby at_100) rfl ?_
      show Steps p.tables e below (s₁.setTop (mkF m 102 #[.val (.long y1), .second, .val (.long y2), .second, .val (.long z3), .second, .val (.long x4), .second, .val (.int mode), .val (.long (-18014398509481984 : Int64)), .second, .val (.long (-288230376151711744 : Int64)), .second, .unset, .unset, .unset, .unset, .unset, .unset, .unset, .unset, .unset, .unset, .unset, .unset, .unset, .unset, .unset, .unset, .unset, .unset, .unset] [(.long x4), (.long (y1 &&& (-18014398509481984 : Int64)))])) t
      refine XS.lload X0.here hx rfl (hb hby at_102) rfl ?_
      show Steps p.tables e below (s₁.setTop (mkF m 104 #[.val (.long y1), .second, .val (.long y2), .second, .val (.long z3), .second, .val (.long x4), .second, .val (.int mode), .val (.long (-18014398509481984 : Int64)), .second, .val (.long (-288230376151711744 : Int64)), .second, .unset, .unset, .unset, .unset, .unset, .unset, .unset, .unset, .unset, .unset, .unset, .unset, .unset, .unset, .unset, .unset, .unset, .unset, .unset] [(.long (-18014398509481984 : Int64)), (.long x4), (.long (y1 &&& (-18014398509481984 : Int64)))])) t
      refine X0.ldc2Long hx hown (mvT hZ (hw _ (List.mem_of_getElem? (i := 2) rfl))) (g := (mkF m 104 #[.val (.long y1), .second, .val (.long y2), .second, .val (.long z3), .second, .val (.long x4), .second, .val (.int mode), .val (.long (-18014398509481984 : Int64)), .second, .val (.long (-288230376151711744 : Int64)), .second, .unset, .unset, .unset, .unset, .unset, .unset, .unset, .unset, .unset, .unset, .unset, .unset, .unset, .unset, .unset, .unset, .unset, .unset, .unset] [(.long (-18014398509481984 : Int64)), (.long x4), (.long (y1 &&& (-18014398509481984 : Int64)))])) rfl (hb hby at_104) _ ?_
      show Steps p.tables e below (s₁.setTop (mkF m 107 #[.val (.long y1), .second, .val (.long y2), .second, .val (.long z3), .second, .val (.long x4), .second, .val (.int mode), .val (.long (-18014398509481984 : Int64)), .second, .val (.long (-288230376151711744 : Int64)), .second, .unset, .unset, .unset, .unset, .unset, .unset, .unset, .unset, .unset, .unset, .unset, .unset, .unset, .unset, .unset, .unset, .unset, .unset, .unset] [(.long (-1 : Int64)), (.long (-18014398509481984 : Int64)), (.long x4), (.long (y1 &&& (-18014398509481984 : Int64)))])) t
      refine XS.lxor X0.here hx rfl (hb hby at_107) rfl ?_
      show Steps p.tables e below (s₁.setTop (mkF m 108 #[.val (.long y1), .second, .val (.long y2), .second, .val (.long z3), .second, .val (.long x4), .second, .val (.int mode), .val (.long (-18014398509481984 : Int64)), .second, .val (.long (-288230376151711744 : Int64)), .second, .unset, .unset, .unset, .unset, .unset, .unset, .unset, .unset, .unset, .unset, .unset, .unset, .unset, .unset, .unset, .unset, .unset, .unset, .unset] [(.long (18014398509481983 : Int64)), (.long x4), (.long (y1 &&& (-18014398509481984 : Int64)))])) t
      refine XS.land X0.here hx rfl (hb hby at_108) rfl ?_
      show Steps p.tables e below (s₁.setTop (mkF m 109 #[.val (.long y1), .second, .val (.long y2), .second, .val (.long z3), .second, .val (.long x4), .second, .val (.int mode), .val (.long (-18014398509481984 : Int64)), .second, .val (.long (-288230376151711744 : Int64)), .second, .unset, .unset, .unset, .unset, .unset, .unset, .unset, .unset, .unset, .unset, .unset, .unset, .unset, .unset, .unset, .unset, .unset, .unset, .unset] [(.long (x4 &&& (18014398509481983 : Int64))), (.long (y1 &&& (-18014398509481984 : Int64)))])) t
      refine XS.lor X0.here hx rfl (hb hby at_109) rfl ?_
      show Steps p.tables e below (s₁.setTop (mkF m 110 #[.val (.long y1), .second, .val (.long y2), .second, .val (.long z3), .second, .val (.long x4), .second, .val (.int mode), .val (.long (-18014398509481984 : Int64)), .second, .val (.long (-288230376151711744 : Int64)), .second, .unset, .unset, .unset, .unset, .unset, .unset, .unset, .unset, .unset, .unset, .unset, .unset, .unset, .unset, .unset, .unset, .unset, .unset, .unset] [(.long ((y1 &&& (-18014398509481984 : Int64)) ||| (x4 &&& (18014398509481983 : Int64))))])) t
      refine XS.lstore X0.here hx rfl (hb hby at_110) rfl (l' := #[.val (.long y1), .second, .val (.long y2), .second, .val (.long z3), .second, .val (.long ((y1 &&& (-18014398509481984 : Int64)) ||| (x4 &&& (18014398509481983 : Int64)))), .second, .val (.int mode), .val (.long (-18014398509481984 : Int64)), .second, .val (.long (-288230376151711744 : Int64)), .second, .unset, .unset, .unset, .unset, .unset, .unset, .unset, .unset, .unset, .unset, .unset, .unset, .unset, .unset, .unset, .unset, .unset, .unset, .unset]) rfl ?_
      show Steps p.tables e below (s₁.setTop (mkF m 112 #[.val (.long y1), .second, .val (.long y2), .second, .val (.long z3), .second, .val (.long ((y1 &&& (-18014398509481984 : Int64)) ||| (x4 &&& (18014398509481983 : Int64)))), .second, .val (.int mode), .val (.long (-18014398509481984 : Int64)), .second, .val (.long (-288230376151711744 : Int64)), .second, .unset, .unset, .unset, .unset, .unset, .unset, .unset, .unset, .unset, .unset, .unset, .unset, .unset, .unset, .unset, .unset, .unset, .unset, .unset] [])) t
      exact (castTop (congrArg (fun zq_ => (mkF m 112 #[.val (.long y1), .second, .val (.long y2), .second, .val (.long z3), .second, .val (.long zq_), .second, .val (.int mode), .val (.long (-18014398509481984 : Int64)), .second, .val (.long (-288230376151711744 : Int64)), .second, .unset, .unset, .unset, .unset, .unset, .unset, .unset, .unset, .unset, .unset, .unset, .unset, .unset, .unset, .unset, .unset, .unset, .unset, .unset] [])) (show ((y1 &&& (-18014398509481984 : Int64)) ||| (x4 &&& (18014398509481983 : Int64))) = (if ((mode &&& (32 : Int32)) = (0 : Int32)) then x4 else ((y1 &&& (-18014398509481984 : Int64)) ||| (x4 &&& (18014398509481983 : Int64)))) by rw [if_neg h15])) k)
  refine OFin.go J14 ?_
  obtain ⟨y4, hy4⟩ : ∃ z : Int64, z = (if ((mode &&& (32 : Int32)) = (0 : Int32)) then x4 else ((y1 &&& (-18014398509481984 : Int64)) ||| (x4 &&& (18014398509481983 : Int64)))) := ⟨_, rfl⟩
  rw [← hy4]
  show OFin p e below _ (s₁.setTop (mkF m 112 #[.val (.long y1), .second, .val (.long y2), .second, .val (.long z3), .second, .val (.long y4), .second, .val (.int mode), .val (.long (-18014398509481984 : Int64)), .second, .val (.long (-288230376151711744 : Int64)), .second, .unset, .unset, .unset, .unset, .unset, .unset, .unset, .unset, .unset, .unset, .unset, .unset, .unset, .unset, .unset, .unset, .unset, .unset, .unset] []))
  have S16 : ∀ t, Steps p.tables e below (s₁.setTop (mkF m 143 #[.val (.long y1), .second, .val (.long y2), .second, .val (.long z3), .second, .val (.long y4), .second, .val (.int mode), .val (.long (-18014398509481984 : Int64)), .second, .val (.long (-288230376151711744 : Int64)), .second, .val (.long (-1018231460777725123 : Int64)), .second, .val (.long (y1 * (-1018231460777725123 : Int64))), .second, .val (.long (y2 * (-1018231460777725123 : Int64))), .second, .val (.long (z3 * (-1018231460777725123 : Int64))), .second, .val (.long (y4 * (-1018231460777725123 : Int64))), .second, .unset, .unset, .unset, .unset, .unset, .unset, .unset, .unset, .unset] [])) t → Steps p.tables e below (s₁.setTop (mkF m 112 #[.val (.long y1), .second, .val (.long y2), .second, .val (.long z3), .second, .val (.long y4), .second, .val (.int mode), .val (.long (-18014398509481984 : Int64)), .second, .val (.long (-288230376151711744 : Int64)), .second, .unset, .unset, .unset, .unset, .unset, .unset, .unset, .unset, .unset, .unset, .unset, .unset, .unset, .unset, .unset, .unset, .unset, .unset, .unset] [])) t := by
    intro t k
    show Steps p.tables e below (s₁.setTop (mkF m 112 #[.val (.long y1), .second, .val (.long y2), .second, .val (.long z3), .second, .val (.long y4), .second, .val (.int mode), .val (.long (-18014398509481984 : Int64)), .second, .val (.long (-288230376151711744 : Int64)), .second, .unset, .unset, .unset, .unset, .unset, .unset, .unset, .unset, .unset, .unset, .unset, .unset, .unset, .unset, .unset, .unset, .unset, .unset, .unset] [])) t
    refine X0.ldc2Long hx hown (mvT hZ (hw _ (List.mem_of_getElem? (i := 3) rfl))) (g := (mkF m 112 #[.val (.long y1), .second, .val (.long y2), .second, .val (.long z3), .second, .val (.long y4), .second, .val (.int mode), .val (.long (-18014398509481984 : Int64)), .second, .val (.long (-288230376151711744 : Int64)), .second, .unset, .unset, .unset, .unset, .unset, .unset, .unset, .unset, .unset, .unset, .unset, .unset, .unset, .unset, .unset, .unset, .unset, .unset, .unset] [])) rfl (hb hby at_112) _ ?_
    show Steps p.tables e below (s₁.setTop (mkF m 115 #[.val (.long y1), .second, .val (.long y2), .second, .val (.long z3), .second, .val (.long y4), .second, .val (.int mode), .val (.long (-18014398509481984 : Int64)), .second, .val (.long (-288230376151711744 : Int64)), .second, .unset, .unset, .unset, .unset, .unset, .unset, .unset, .unset, .unset, .unset, .unset, .unset, .unset, .unset, .unset, .unset, .unset, .unset, .unset] [(.long (-1018231460777725123 : Int64))])) t
    refine XS.lstore X0.here hx rfl (hb hby at_115) rfl (l' := #[.val (.long y1), .second, .val (.long y2), .second, .val (.long z3), .second, .val (.long y4), .second, .val (.int mode), .val (.long (-18014398509481984 : Int64)), .second, .val (.long (-288230376151711744 : Int64)), .second, .val (.long (-1018231460777725123 : Int64)), .second, .unset, .unset, .unset, .unset, .unset, .unset, .unset, .unset, .unset, .unset, .unset, .unset, .unset, .unset, .unset, .unset, .unset]) rfl ?_
    show Steps p.tables e below (s₁.setTop (mkF m 117 #[.val (.long y1), .second, .val (.long y2), .second, .val (.long z3), .second, .val (.long y4), .second, .val (.int mode), .val (.long (-18014398509481984 : Int64)), .second, .val (.long (-288230376151711744 : Int64)), .second, .val (.long (-1018231460777725123 : Int64)), .second, .unset, .unset, .unset, .unset, .unset, .unset, .unset, .unset, .unset, .unset, .unset, .unset, .unset, .unset, .unset, .unset, .unset] [])) t
    refine XS.lloadN X0.here hx rfl (hb hby at_117) rfl ?_
    show Steps p.tables e below (s₁.setTop (mkF m 118 #[.val (.long y1), .second, .val (.long y2), .second, .val (.long z3), .second, .val (.long y4), .second, .val (.int mode), .val (.long (-18014398509481984 : Int64)), .second, .val (.long (-288230376151711744 : Int64)), .second, .val (.long (-1018231460777725123 : Int64)), .second, .unset, .unset, .unset, .unset, .unset, .unset, .unset, .unset, .unset, .unset, .unset, .unset, .unset, .unset, .unset, .unset, .unset] [(.long y1)])) t
    refine XS.lload X0.here hx rfl (hb hby at_118) rfl ?_
    show Steps p.tables e below (s₁.setTop (mkF m 120 #[.val (.long y1), .second, .val (.long y2), .second, .val (.long z3), .second, .val (.long y4), .second, .val (.int mode), .val (.long (-18014398509481984 : Int64)), .second, .val (.long (-288230376151711744 : Int64)), .second, .val (.long (-1018231460777725123 : Int64)), .second, .unset, .unset, .unset, .unset, .unset, .unset, .unset, .unset, .unset, .unset, .unset, .unset, .unset, .unset, .unset, .unset, .unset] [(.long (-1018231460777725123 : Int64)), (.long y1)])) t
    refine XS.lmul X0.here hx rfl (hb hby at_120) rfl ?_
    show Steps p.tables e below (s₁.setTop (mkF m 121 #[.val (.long y1), .second, .val (.long y2), .second, .val (.long z3), .second, .val (.long y4), .second, .val (.int mode), .val (.long (-18014398509481984 : Int64)), .second, .val (.long (-288230376151711744 : Int64)), .second, .val (.long (-1018231460777725123 : Int64)), .second, .unset, .unset, .unset, .unset, .unset, .unset, .unset, .unset, .unset, .unset, .unset, .unset, .unset, .unset, .unset, .unset, .unset] [(.long (y1 * (-1018231460777725123 : Int64)))])) t
    refine XS.lstore X0.here hx rfl (hb hby at_121) rfl (l' := #[.val (.long y1), .second, .val (.long y2), .second, .val (.long z3), .second, .val (.long y4), .second, .val (.int mode), .val (.long (-18014398509481984 : Int64)), .second, .val (.long (-288230376151711744 : Int64)), .second, .val (.long (-1018231460777725123 : Int64)), .second, .val (.long (y1 * (-1018231460777725123 : Int64))), .second, .unset, .unset, .unset, .unset, .unset, .unset, .unset, .unset, .unset, .unset, .unset, .unset, .unset, .unset, .unset]) rfl ?_
    show Steps p.tables e below (s₁.setTop (mkF m 123 #[.val (.long y1), .second, .val (.long y2), .second, .val (.long z3), .second, .val (.long y4), .second, .val (.int mode), .val (.long (-18014398509481984 : Int64)), .second, .val (.long (-288230376151711744 : Int64)), .second, .val (.long (-1018231460777725123 : Int64)), .second, .val (.long (y1 * (-1018231460777725123 : Int64))), .second, .unset, .unset, .unset, .unset, .unset, .unset, .unset, .unset, .unset, .unset, .unset, .unset, .unset, .unset, .unset] [])) t
    refine XS.lloadN X0.here hx rfl (hb hby at_123) rfl ?_
    show Steps p.tables e below (s₁.setTop (mkF m 124 #[.val (.long y1), .second, .val (.long y2), .second, .val (.long z3), .second, .val (.long y4), .second, .val (.int mode), .val (.long (-18014398509481984 : Int64)), .second, .val (.long (-288230376151711744 : Int64)), .second, .val (.long (-1018231460777725123 : Int64)), .second, .val (.long (y1 * (-1018231460777725123 : Int64))), .second, .unset, .unset, .unset, .unset, .unset, .unset, .unset, .unset, .unset, .unset, .unset, .unset, .unset, .unset, .unset] [(.long y2)])) t
    refine XS.lload X0.here hx rfl (hb hby at_124) rfl ?_
    show Steps p.tables e below (s₁.setTop (mkF m 126 #[.val (.long y1), .second, .val (.long y2), .second, .val (.long z3), .second, .val (.long y4), .second, .val (.int mode), .val (.long (-18014398509481984 : Int64)), .second, .val (.long (-288230376151711744 : Int64)), .second, .val (.long (-1018231460777725123 : Int64)), .second, .val (.long (y1 * (-1018231460777725123 : Int64))), .second, .unset, .unset, .unset, .unset, .unset, .unset, .unset, .unset, .unset, .unset, .unset, .unset, .unset, .unset, .unset] [(.long (-1018231460777725123 : Int64)), (.long y2)])) t
    refine XS.lmul X0.here hx rfl (hb hby at_126) rfl ?_
    show Steps p.tables e below (s₁.setTop (mkF m 127 #[.val (.long y1), .second, .val (.long y2), .second, .val (.long z3), .second, .val (.long y4), .second, .val (.int mode), .val (.long (-18014398509481984 : Int64)), .second, .val (.long (-288230376151711744 : Int64)), .second, .val (.long (-1018231460777725123 : Int64)), .second, .val (.long (y1 * (-1018231460777725123 : Int64))), .second, .unset, .unset, .unset, .unset, .unset, .unset, .unset, .unset, .unset, .unset, .unset, .unset, .unset, .unset, .unset] [(.long (y2 * (-1018231460777725123 : Int64)))])) t
    refine XS.lstore X0.here hx rfl (hb hby at_127) rfl (l' := #[.val (.long y1), .second, .val (.long y2), .second, .val (.long z3), .second, .val (.long y4), .second, .val (.int mode), .val (.long (-18014398509481984 : Int64)), .second, .val (.long (-288230376151711744 : Int64)), .second, .val (.long (-1018231460777725123 : Int64)), .second, .val (.long (y1 * (-1018231460777725123 : Int64))), .second, .val (.long (y2 * (-1018231460777725123 : Int64))), .second, .unset, .unset, .unset, .unset, .unset, .unset, .unset, .unset, .unset, .unset, .unset, .unset, .unset]) rfl ?_
    show Steps p.tables e below (s₁.setTop (mkF m 129 #[.val (.long y1), .second, .val (.long y2), .second, .val (.long z3), .second, .val (.long y4), .second, .val (.int mode), .val (.long (-18014398509481984 : Int64)), .second, .val (.long (-288230376151711744 : Int64)), .second, .val (.long (-1018231460777725123 : Int64)), .second, .val (.long (y1 * (-1018231460777725123 : Int64))), .second, .val (.long (y2 * (-1018231460777725123 : Int64))), .second, .unset, .unset, .unset, .unset, .unset, .unset, .unset, .unset, .unset, .unset, .unset, .unset, .unset] [])) t
    refine XS.lload X0.here hx rfl (hb hby at_129) rfl ?_
    show Steps p.tables e below (s₁.setTop (mkF m 131 #[.val (.long y1), .second, .val (.long y2), .second, .val (.long z3), .second, .val (.long y4), .second, .val (.int mode), .val (.long (-18014398509481984 : Int64)), .second, .val (.long (-288230376151711744 : Int64)), .second, .val (.long (-1018231460777725123 : Int64)), .second, .val (.long (y1 * (-1018231460777725123 : Int64))), .second, .val (.long (y2 * (-1018231460777725123 : Int64))), .second, .unset, .unset, .unset, .unset, .unset, .unset, .unset, .unset, .unset, .unset, .unset, .unset, .unset] [(.long z3)])) t
    refine XS.lload X0.here hx rfl (hb hby at_131) rfl ?_
    show Steps p.tables e below (s₁.setTop (mkF m 133 #[.val (.long y1), .second, .val (.long y2), .second, .val (.long z3), .second, .val (.long y4), .second, .val (.int mode), .val (.long (-18014398509481984 : Int64)), .second, .val (.long (-288230376151711744 : Int64)), .second, .val (.long (-1018231460777725123 : Int64)), .second, .val (.long (y1 * (-1018231460777725123 : Int64))), .second, .val (.long (y2 * (-1018231460777725123 : Int64))), .second, .unset, .unset, .unset, .unset, .unset, .unset, .unset, .unset, .unset, .unset, .unset, .unset, .unset] [(.long (-1018231460777725123 : Int64)), (.long z3)])) t
    refine XS.lmul X0.here hx rfl (hb hby at_133) rfl ?_
    show Steps p.tables e below (s₁.setTop (mkF m 134 #[.val (.long y1), .second, .val (.long y2), .second, .val (.long z3), .second, .val (.long y4), .second, .val (.int mode), .val (.long (-18014398509481984 : Int64)), .second, .val (.long (-288230376151711744 : Int64)), .second, .val (.long (-1018231460777725123 : Int64)), .second, .val (.long (y1 * (-1018231460777725123 : Int64))), .second, .val (.long (y2 * (-1018231460777725123 : Int64))), .second, .unset, .unset, .unset, .unset, .unset, .unset, .unset, .unset, .unset, .unset, .unset, .unset, .unset] [(.long (z3 * (-1018231460777725123 : Int64)))])) t
    refine XS.lstore X0.here hx rfl (hb hby at_134) rfl (l' := #[.val (.long y1), .second, .val (.long y2), .second, .val (.long z3), .second, .val (.long y4), .second, .val (.int mode), .val (.long (-18014398509481984 : Int64)), .second, .val (.long (-288230376151711744 : Int64)), .second, .val (.long (-1018231460777725123 : Int64)), .second, .val (.long (y1 * (-1018231460777725123 : Int64))), .second, .val (.long (y2 * (-1018231460777725123 : Int64))), .second, .val (.long (z3 * (-1018231460777725123 : Int64))), .second, .unset, .unset, .unset, .unset, .unset, .unset, .unset, .unset, .unset, .unset, .unset]) rfl ?_
    show Steps p.tables e below (s₁.setTop (mkF m 136 #[.val (.long y1), .second, .val (.long y2), .second, .val (.long z3), .second, .val (.long y4), .second, .val (.int mode), .val (.long (-18014398509481984 : Int64)), .second, .val (.long (-288230376151711744 : Int64)), .second, .val (.long (-1018231460777725123 : Int64)), .second, .val (.long (y1 * (-1018231460777725123 : Int64))), .second, .val (.long (y2 * (-1018231460777725123 : Int64))), .second, .val (.long (z3 * (-1018231460777725123 : Int64))), .second, .unset, .unset, .unset, .unset, .unset, .unset, .unset, .unset, .unset, .unset, .unset] [])) t
    refine XS.lload X0.here hx rfl (hb hby at_136) rfl ?_
    show Steps p.tables e below (s₁.setTop (mkF m 138 #[.val (.long y1), .second, .val (.long y2), .second, .val (.long z3), .second, .val (.long y4), .second, .val (.int mode), .val (.long (-18014398509481984 : Int64)), .second, .val (.long (-288230376151711744 : Int64)), .second, .val (.long (-1018231460777725123 : Int64)), .second, .val (.long (y1 * (-1018231460777725123 : Int64))), .second, .val (.long (y2 * (-1018231460777725123 : Int64))), .second, .val (.long (z3 * (-1018231460777725123 : Int64))), .second, .unset, .unset, .unset, .unset, .unset, .unset, .unset, .unset, .unset, .unset, .unset] [(.long y4)])) t
    refine XS.lload X0.here hx rfl (hb hby at_138) rfl ?_
    show Steps p.tables e below (s₁.setTop (mkF m 140 #[.val (.long y1), .second, .val (.long y2), .second, .val (.long z3), .second, .val (.long y4), .second, .val (.int mode), .val (.long (-18014398509481984 : Int64)), .second, .val (.long (-288230376151711744 : Int64)), .second, .val (.long (-1018231460777725123 : Int64)), .second, .val (.long (y1 * (-1018231460777725123 : Int64))), .second, .val (.long (y2 * (-1018231460777725123 : Int64))), .second, .val (.long (z3 * (-1018231460777725123 : Int64))), .second, .unset, .unset, .unset, .unset, .unset, .unset, .unset, .unset, .unset, .unset, .unset] [(.long (-1018231460777725123 : Int64)), (.long y4)])) t
    refine XS.lmul X0.here hx rfl (hb hby at_140) rfl ?_
    show Steps p.tables e below (s₁.setTop (mkF m 141 #[.val (.long y1), .second, .val (.long y2), .second, .val (.long z3), .second, .val (.long y4), .second, .val (.int mode), .val (.long (-18014398509481984 : Int64)), .second, .val (.long (-288230376151711744 : Int64)), .second, .val (.long (-1018231460777725123 : Int64)), .second, .val (.long (y1 * (-1018231460777725123 : Int64))), .second, .val (.long (y2 * (-1018231460777725123 : Int64))), .second, .val (.long (z3 * (-1018231460777725123 : Int64))), .second, .unset, .unset, .unset, .unset, .unset, .unset, .unset, .unset, .unset, .unset, .unset] [(.long (y4 * (-1018231460777725123 : Int64)))])) t
    refine XS.lstore X0.here hx rfl (hb hby at_141) rfl (l' := #[.val (.long y1), .second, .val (.long y2), .second, .val (.long z3), .second, .val (.long y4), .second, .val (.int mode), .val (.long (-18014398509481984 : Int64)), .second, .val (.long (-288230376151711744 : Int64)), .second, .val (.long (-1018231460777725123 : Int64)), .second, .val (.long (y1 * (-1018231460777725123 : Int64))), .second, .val (.long (y2 * (-1018231460777725123 : Int64))), .second, .val (.long (z3 * (-1018231460777725123 : Int64))), .second, .val (.long (y4 * (-1018231460777725123 : Int64))), .second, .unset, .unset, .unset, .unset, .unset, .unset, .unset, .unset, .unset]) rfl ?_
    exact k
  refine OFin.go S16 ?_
  obtain ⟨ky1, hky1⟩ : ∃ z : Int64, z = (y1 * (-1018231460777725123 : Int64)) := ⟨_, rfl⟩
  rw [← hky1]
  obtain ⟨ky2, hky2⟩ : ∃ z : Int64, z = (y2 * (-1018231460777725123 : Int64)) := ⟨_, rfl⟩
  rw [← hky2]
  obtain ⟨ky3, hky3⟩ : ∃ z : Int64, z = (z3 * (-1018231460777725123 : Int64)) := ⟨_, rfl⟩
  rw [← hky3]
  obtain ⟨ky4, hky4⟩ : ∃ z : Int64, z = (y4 * (-1018231460777725123 : Int64)) := ⟨_, rfl⟩
  rw [← hky4]
  show OFin p e below _ (s₁.setTop (mkF m 143 #[.val (.long y1), .second, .val (.long y2), .second, .val (.long z3), .second, .val (.long y4), .second, .val (.int mode), .val (.long (-18014398509481984 : Int64)), .second, .val (.long (-288230376151711744 : Int64)), .second, .val (.long (-1018231460777725123 : Int64)), .second, .val (.long ky1), .second, .val (.long ky2), .second, .val (.long ky3), .second, .val (.long ky4), .second, .unset, .unset, .unset, .unset, .unset, .unset, .unset, .unset, .unset] []))
  have S17 : ∀ t, Steps p.tables e below (s₁.setTop (mkF m 151 #[.val (.long y1), .second, .val (.long y2), .second, .val (.long z3), .second, .val (.long y4), .second, .val (.int mode), .val (.long (-18014398509481984 : Int64)), .second, .val (.long (-288230376151711744 : Int64)), .second, .val (.long (-1018231460777725123 : Int64)), .second, .val (.long ky1), .second, .val (.long ky2), .second, .val (.long ky3), .second, .val (.long ky4), .second, .val (.int (((mode.toUInt32 >>> ((2 : Int32) &&& 31).toUInt32).toInt32) &&& (3 : Int32))), .unset, .unset, .unset, .unset, .unset, .unset, .unset, .unset] [])) t → Steps p.tables e below (s₁.setTop (mkF m 143 #[.val (.long y1), .second, .val (.long y2), .second, .val (.long z3), .second, .val (.long y4), .second, .val (.int mode), .val (.long (-18014398509481984 : Int64)), .second, .val (.long (-288230376151711744 : Int64)), .second, .val (.long (-1018231460777725123 : Int64)), .second, .val (.long ky1), .second, .val (.long ky2), .second, .val (.long ky3), .second, .val (.long ky4), .second, .unset, .unset, .unset, .unset, .unset, .unset, .unset, .unset, .unset] [])) t := by
    intro t k
    show Steps p.tables e below (s₁.setTop (mkF m 143 #[.val (.long y1), .second, .val (.long y2), .second, .val (.long z3), .second, .val (.long y4), .second, .val (.int mode), .val (.long (-18014398509481984 : Int64)), .second, .val (.long (-288230376151711744 : Int64)), .second, .val (.long (-1018231460777725123 : Int64)), .second, .val (.long ky1), .second, .val (.long ky2), .second, .val (.long ky3), .second, .val (.long ky4), .second, .unset, .unset, .unset, .unset, .unset, .unset, .unset, .unset, .unset] [])) t
    refine XS.iload X0.here hx rfl (hb hby at_143) rfl ?_
    show Steps p.tables e below (s₁.setTop (mkF m 145 #[.val (.long y1), .second, .val (.long y2), .second, .val (.long z3), .second, .val (.long y4), .second, .val (.int mode), .val (.long (-18014398509481984 : Int64)), .second, .val (.long (-288230376151711744 : Int64)), .second, .val (.long (-1018231460777725123 : Int64)), .second, .val (.long ky1), .second, .val (.long ky2), .second, .val (.long ky3), .second, .val (.long ky4), .second, .unset, .unset, .unset, .unset, .unset, .unset, .unset, .unset, .unset] [(.int mode)])) t
    refine XS.iconst X0.here hx rfl (hb hby at_145) ?_
    show Steps p.tables e below (s₁.setTop (mkF m 146 #[.val (.long y1), .second, .val (.long y2), .second, .val (.long z3), .second, .val (.long y4), .second, .val (.int mode), .val (.long (-18014398509481984 : Int64)), .second, .val (.long (-288230376151711744 : Int64)), .second, .val (.long (-1018231460777725123 : Int64)), .second, .val (.long ky1), .second, .val (.long ky2), .second, .val (.long ky3), .second, .val (.long ky4), .second, .unset, .unset, .unset, .unset, .unset, .unset, .unset, .unset, .unset] [(.int (2 : Int32)), (.int mode)])) t
    refine XS.iushr X0.here hx rfl (hb hby at_146) rfl ?_
    show Steps p.tables e below (s₁.setTop (mkF m 147 #[.val (.long y1), .second, .val (.long y2), .second, .val (.long z3), .second, .val (.long y4), .second, .val (.int mode), .val (.long (-18014398509481984 : Int64)), .second, .val (.long (-288230376151711744 : Int64)), .second, .val (.long (-1018231460777725123 : Int64)), .second, .val (.long ky1), .second, .val (.long ky2), .second, .val (.long ky3), .second, .val (.long ky4), .second, .unset, .unset, .unset, .unset, .unset, .unset, .unset, .unset, .unset] [(.int ((mode.toUInt32 >>> ((2 : Int32) &&& 31).toUInt32).toInt32))])) t
    refine XS.iconst X0.here hx rfl (hb hby at_147) ?_
    show Steps p.tables e below (s₁.setTop (mkF m 148 #[.val (.long y1), .second, .val (.long y2), .second, .val (.long z3), .second, .val (.long y4), .second, .val (.int mode), .val (.long (-18014398509481984 : Int64)), .second, .val (.long (-288230376151711744 : Int64)), .second, .val (.long (-1018231460777725123 : Int64)), .second, .val (.long ky1), .second, .val (.long ky2), .second, .val (.long ky3), .second, .val (.long ky4), .second, .unset, .unset, .unset, .unset, .unset, .unset, .unset, .unset, .unset] [(.int (3 : Int32)), (.int ((mode.toUInt32 >>> ((2 : Int32) &&& 31).toUInt32).toInt32))])) t
    refine XS.iand X0.here hx rfl (hb hby at_148) rfl ?_
    show Steps p.tables e below (s₁.setTop (mkF m 149 #[.val (.long y1), .second, .val (.long y2), .second, .val (.long z3), .second, .val (.long y4), .second, .val (.int mode), .val (.long (-18014398509481984 : Int64)), .second, .val (.long (-288230376151711744 : Int64)), .second, .val (.long (-1018231460777725123 : Int64)), .second, .val (.long ky1), .second, .val (.long ky2), .second, .val (.long ky3), .second, .val (.long ky4), .second, .unset, .unset, .unset, .unset, .unset, .unset, .unset, .unset, .unset] [(.int (((mode.toUInt32 >>> ((2 : Int32) &&& 31).toUInt32).toInt32) &&& (3 : Int32)))])) t
    refine XS.istore X0.here hx rfl (hb hby at_149) rfl (l' := #[.val (.long y1), .second, .val (.long y2), .second, .val (.long z3), .second, .val (.long y4), .second, .val (.int mode), .val (.long (-18014398509481984 : Int64)), .second, .val (.long (-288230376151711744 : Int64)), .second, .val (.long (-1018231460777725123 : Int64)), .second, .val (.long ky1), .second, .val (.long ky2), .second, .val (.long ky3), .second, .val (.long ky4), .second, .val (.int (((mode.toUInt32 >>> ((2 : Int32) &&& 31).toUInt32).toInt32) &&& (3 : Int32))), .unset, .unset, .unset, .unset, .unset, .unset, .unset, .unset]) rfl ?_
    exact k
  refine OFin.go S17 ?_
  obtain ⟨wh, hwh⟩ : ∃ z : Int32, z = (((mode.toUInt32 >>> ((2 : Int32) &&& 31).toUInt32).toInt32) &&& (3 : Int32)) := ⟨_, rfl⟩
  rw [← hwh]
  show OFin p e below _ (s₁.setTop (mkF m 151 #[.val (.long y1), .second, .val (.long y2), .second, .val (.long z3), .second, .val (.long y4), .second, .val (.int mode), .val (.long (-18014398509481984 : Int64)), .second, .val (.long (-288230376151711744 : Int64)), .second, .val (.long (-1018231460777725123 : Int64)), .second, .val (.long ky1), .second, .val (.long ky2), .second, .val (.long ky3), .second, .val (.long ky4), .second, .val (.int wh), .unset, .unset, .unset, .unset, .unset, .unset, .unset, .unset] []))
  have S18 : ∀ t, Steps p.tables e below (s₁.setTop (mkF m 153 #[.val (.long y1), .second, .val (.long y2), .second, .val (.long z3), .second, .val (.long y4), .second, .val (.int mode), .val (.long (-18014398509481984 : Int64)), .second, .val (.long (-288230376151711744 : Int64)), .second, .val (.long (-1018231460777725123 : Int64)), .second, .val (.long ky1), .second, .val (.long ky2), .second, .val (.long ky3), .second, .val (.long ky4), .second, .val (.int wh), .unset, .unset, .unset, .unset, .unset, .unset, .unset, .unset] [(.int wh)])) t → Steps p.tables e below (s₁.setTop (mkF m 151 #[.val (.long y1), .second, .val (.long y2), .second, .val (.long z3), .second, .val (.long y4), .second, .val (.int mode), .val (.long (-18014398509481984 : Int64)), .second, .val (.long (-288230376151711744 : Int64)), .second, .val (.long (-1018231460777725123 : Int64)), .second, .val (.long ky1), .second, .val (.long ky2), .second, .val (.long ky3), .second, .val (.long ky4), .second, .val (.int wh), .unset, .unset, .unset, .unset, .unset, .unset, .unset, .unset] [])) t := by
    intro t k
    show Steps p.tables e below (s₁.setTop (mkF m 151 #[.val (.long y1), .second, .val (.long y2), .second, .val (.long z3), .second, .val (.long y4), .second, .val (.int mode), .val (.long (-18014398509481984 : Int64)), .second, .val (.long (-288230376151711744 : Int64)), .second, .val (.long (-1018231460777725123 : Int64)), .second, .val (.long ky1), .second, .val (.long ky2), .second, .val (.long ky3), .second, .val (.long ky4), .second, .val (.int wh), .unset, .unset, .unset, .unset, .unset, .unset, .unset, .unset] [])) t
    refine XS.iload X0.here hx rfl (hb hby at_151) rfl ?_
    exact k
  refine OFin.go S18 ?_
  have J19 : ∀ t, Steps p.tables e below (s₁.setTop (mkF m 161 #[.val (.long y1), .second, .val (.long y2), .second, .val (.long z3), .second, .val (.long y4), .second, .val (.int mode), .val (.long (-18014398509481984 : Int64)), .second, .val (.long (-288230376151711744 : Int64)), .second, .val (.long (-1018231460777725123 : Int64)), .second, .val (.long ky1), .second, .val (.long ky2), .second, .val (.long ky3), .second, .val (.long ky4), .second, .val (.int wh), .unset, .unset, .unset, .unset, .unset, .unset, .unset, .unset] [(.int (bi (¬ (wh = (0 : Int32)))))])) t → Steps p.tables e below (s₁.setTop (mkF m 153 #[.val (.long y1), .second, .val (.long y2), .second, .val (.long z3), .second, .val (.long y4), .second, .val (.int mode), .val (.long (-18014398509481984 : Int64)), .second, .val (.long (-288230376151711744 : Int64)), .second, .val (.long (-1018231460777725123 : Int64)), .second, .val (.long ky1), .second, .val (.long ky2), .second, .val (.long ky3), .second, .val (.long ky4), .second, .val (.int wh), .unset, .unset, .unset, .unset, .unset, .unset, .unset, .unset] [(.int wh)])) t := by
    intro t k
    show Steps p.tables e below (s₁.setTop (mkF m 153 #[.val (.long y1), .second, .val (.long y2), .second, .val (.long z3), .second, .val (.long y4), .second, .val (.int mode), .val (.long (-18014398509481984 : Int64)), .second, .val (.long (-288230376151711744 : Int64)), .second, .val (.long (-1018231460777725123 : Int64)), .second, .val (.long ky1), .second, .val (.long ky2), .second, .val (.long ky3), .second, .val (.long ky4), .second, .val (.int wh), .unset, .unset, .unset, .unset, .unset, .unset, .unset, .unset] [(.int wh)])) t
    by_cases h20 : (wh = (0 : Int32))
    · refine XS.ifYes X0.here hx rfl (pc0 := 153) (pc' := 160) rfl (hb hby at_153) rfl ((if0 _ _).trans (teq h20).1) (by decide) (by decide) ?_
      show Steps p.tables e below (s₁.setTop (mkF m 160 #[.val (.long y1), .second, .val (.long y2), .second, .val (.long z3), .second, .val (.long y4), .second, .val (.int mode), .val (.long (-18014398509481984 : Int64)), .second, .val (.long (-288230376151711744 : Int64)), .second, .val (.long (-1018231460777725123 : Int64)), .second, .val (.long ky1), .second, .val (.long ky2), .second, .val (.long ky3), .second, .val (.long ky4), .second, .val (.int wh), .unset, .unset, .unset, .unset, .unset, .unset, .unset, .unset] [])) t
      refine XS.iconst X0.here hx rfl (hb hby at_160) ?_
      show Steps p.tables e below (s₁.setTop (mkF m 161 #[.val (.long y1), .second, .val (.long y2), .second, .val (.long z3), .second, .val (.long y4), .second, .val (.int mode), .val (.long (-18014398509481984 : Int64)), .second, .val (.long (-288230376151711744 : Int64)), .second, .val (.long (-1018231460777725123 : Int64)), .second, .val (.long ky1), .second, .val (.long ky2), .second, .val (.long ky3), .second, .val (.long ky4), .second, .val (.int wh), .unset, .unset, .unset, .unset, .unset, .unset, .unset, .unset] [(.int (0 : Int32))])) t
      exact (castTop (congrArg (fun zq_ => (mkF m 161 #[.val (.long y1), .second, .val (.long y2), .second, .val (.long z3), .second, .val (.long y4), .second, .val (.int mode), .val (.long (-18014398509481984 : Int64)), .second, .val (.long (-288230376151711744 : Int64)), .second, .val (.long (-1018231460777725123 : Int64)), .second, .val (.long ky1), .second, .val (.long ky2), .second, .val (.long ky3), .second, .val (.long ky4), .second, .val (.int wh), .unset, .unset, .unset, .unset, .unset, .unset, .unset, .unset] [(.int zq_)])) (bi_f (fun q => q h20)).symm) k)
    · refine XS.ifNo X0.here hx rfl (hb hby at_153) rfl ((if0 _ _).trans (feq h20).1) ?_
      show Steps p.tables e below (s₁.setTop (mkF m 156 #[.val (.long y1), .second, .val (.long y2), .second, .val (.long z3), .second, .val (.long y4), .second, .val (.int mode), .val (.long (-18014398509481984 : Int64)), .second, .val (.long (-288230376151711744 : Int64)), .second, .val (.long (-1018231460777725123 : Int64)), .second, .val (.long ky1), .second, .val (.long ky2), .second, .val (.long ky3), .second, .val (.long ky4), .second, .val (.int wh), .unset, .unset, .unset, .unset, .unset, .unset, .unset, .unset] [])) t
      refine XS.iconst X0.here hx rfl (hb hby at_156) ?_
      show Steps p.tables e below (s₁.setTop (mkF m 157 #[.val (.long y1), .second, .val (.long y2), .second, .val (.long z3), .second, .val (.long y4), .second, .val (.int mode), .val (.long (-18014398509481984 : Int64)), .second, .val (.long (-288230376151711744 : Int64)), .second, .val (.long (-1018231460777725123 : Int64)), .second, .val (.long ky1), .second, .val (.long ky2), .second, .val (.long ky3), .second, .val (.long ky4), .second, .val (.int wh), .unset, .unset, .unset, .unset, .unset, .unset, .unset, .unset] [(.int (1 : Int32))])) t
      refine XS.goto X0.here hx rfl (pc0 := 157) (pc' := 161) rfl (hb hby at_157) (by decide) (by decide) ?_
      show Steps p.tables e below (s₁.setTop (mkF m 161 #[.val (.long y1), .second, .val (.long y2), .second, .val (.long z3), .second, .val (.long y4), .second, .val (.int mode), .val (.long (-18014398509481984 : Int64)), .second, .val (.long (-288230376151711744 : Int64)), .second, .val (.long (-1018231460777725123 : Int64)), .second, .val (.long ky1), .second, .val (.long ky2), .second, .val (.long ky3), .second, .val (.long ky4), .second, .val (.int wh), .unset, .unset, .unset, .unset, .unset, .unset, .unset, .unset] [(.int (1 : Int32))])) t
      exact (castTop (congrArg (fun zq_ => (mkF m 161 #[.val (.long y1), .second, .val (.long y2), .second, .val (.long z3), .second, .val (.long y4), .second, .val (.int mode), .val (.long (-18014398509481984 : Int64)), .second, .val (.long (-288230376151711744 : Int64)), .second, .val (.long (-1018231460777725123 : Int64)), .second, .val (.long ky1), .second, .val (.long ky2), .second, .val (.long ky3), .second, .val (.long ky4), .second, .val (.int wh), .unset, .unset, .unset, .unset, .unset, .unset, .unset, .unset] [(.int zq_)])) (bi_t h20).symm) k)
  refine OFin.go J19 ?_
  have S21 : ∀ t, Steps p.tables e below (s₁.setTop (mkF m 166 #[.val (.long y1), .second, .val (.long y2), .second, .val (.long z3), .second, .val (.long y4), .second, .val (.int mode), .val (.long (-18014398509481984 : Int64)), .second, .val (.long (-288230376151711744 : Int64)), .second, .val (.long (-1018231460777725123 : Int64)), .second, .val (.long ky1), .second, .val (.long ky2), .second, .val (.long ky3), .second, .val (.long ky4), .second, .val (.int wh), .val (.int (bi (¬ (wh = (0 : Int32))))), .unset, .unset, .unset, .unset, .unset, .unset, .unset] [(.int (1 : Int32)), (.int wh)])) t → Steps p.tables e below (s₁.setTop (mkF m 161 #[.val (.long y1), .second, .val (.long y2), .second, .val (.long z3), .second, .val (.long y4), .second, .val (.int mode), .val (.long (-18014398509481984 : Int64)), .second, .val (.long (-288230376151711744 : Int64)), .second, .val (.long (-1018231460777725123 : Int64)), .second, .val (.long ky1), .second, .val (.long ky2), .second, .val (.long ky3), .second, .val (.long ky4), .second, .val (.int wh), .unset, .unset, .unset, .unset, .unset, .unset, .unset, .unset] [(.int (bi (¬ (wh = (0 : Int32)))))])) t := by
    intro t k
    show Steps p.tables e below (s₁.setTop (mkF m 161 #[.val (.long y1), .second, .val (.long y2), .second, .val (.long z3), .second, .val (.long y4), .second, .val (.int mode), .val (.long (-18014398509481984 : Int64)), .second, .val (.long (-288230376151711744 : Int64)), .second, .val (.long (-1018231460777725123 : Int64)), .second, .val (.long ky1), .second, .val (.long ky2), .second, .val (.long ky3), .second, .val (.long ky4), .second, .val (.int wh), .unset, .unset, .unset, .unset, .unset, .unset, .unset, .unset] [(.int (bi (¬ (wh = (0 : Int32)))))])) t
    refine XS.istore X0.here hx rfl (hb hby at_161) rfl (l' := #[.val (.long y1), .second, .val (.long y2), .second, .val (.long z3), .second, .val (.long y4), .second, .val (.int mode), .val (.long (-18014398509481984 : Int64)), .second, .val (.long (-288230376151711744 : Int64)), .second, .val (.long (-1018231460777725123 : Int64)), .second, .val (.long ky1), .second, .val (.long ky2), .second, .val (.long ky3), .second, .val (.long ky4), .second, .val (.int wh), .val (.int (bi (¬ (wh = (0 : Int32))))), .unset, .unset, .unset, .unset, .unset, .unset, .unset]) rfl ?_
    show Steps p.tables e below (s₁.setTop (mkF m 163 #[.val (.long y1), .second, .val (.long y2), .second, .val (.long z3), .second, .val (.long y4), .second, .val (.int mode), .val (.long (-18014398509481984 : Int64)), .second, .val (.long (-288230376151711744 : Int64)), .second, .val (.long (-1018231460777725123 : Int64)), .second, .val (.long ky1), .second, .val (.long ky2), .second, .val (.long ky3), .second, .val (.long ky4), .second, .val (.int wh), .val (.int (bi (¬ (wh = (0 : Int32))))), .unset, .unset, .unset, .unset, .unset, .unset, .unset] [])) t
    refine XS.iload X0.here hx rfl (hb hby at_163) rfl ?_
    show Steps p.tables e below (s₁.setTop (mkF m 165 #[.val (.long y1), .second, .val (.long y2), .second, .val (.long z3), .second, .val (.long y4), .second, .val (.int mode), .val (.long (-18014398509481984 : Int64)), .second, .val (.long (-288230376151711744 : Int64)), .second, .val (.long (-1018231460777725123 : Int64)), .second, .val (.long ky1), .second, .val (.long ky2), .second, .val (.long ky3), .second, .val (.long ky4), .second, .val (.int wh), .val (.int (bi (¬ (wh = (0 : Int32))))), .unset, .unset, .unset, .unset, .unset, .unset, .unset] [(.int wh)])) t
    refine XS.iconst X0.here hx rfl (hb hby at_165) ?_
    exact k
  refine OFin.go S21 ?_
  have J22 : ∀ t, Steps p.tables e below (s₁.setTop (mkF m 187 #[.val (.long y1), .second, .val (.long y2), .second, .val (.long z3), .second, .val (.long y4), .second, .val (.int mode), .val (.long (-18014398509481984 : Int64)), .second, .val (.long (-288230376151711744 : Int64)), .second, .val (.long (-1018231460777725123 : Int64)), .second, .val (.long ky1), .second, .val (.long ky2), .second, .val (.long ky3), .second, .val (.long ky4), .second, .val (.int wh), .val (.int (bi (¬ (wh = (0 : Int32))))), .unset, .unset, .unset, .unset, .unset, .unset, .unset] [(.long (if (wh = (1 : Int32)) then ky1 else (if (wh = (2 : Int32)) then ky2 else ky3)))])) t → Steps p.tables e below (s₁.setTop (mkF m 166 #[.val (.long y1), .second, .val (.long y2), .second, .val (.long z3), .second, .val (.long y4), .second, .val (.int mode), .val (.long (-18014398509481984 : Int64)), .second, .val (.long (-288230376151711744 : Int64)), .second, .val (.long (-1018231460777725123 : Int64)), .second, .val (.long ky1), .second, .val (.long ky2), .second, .val (.long ky3), .second, .val (.long ky4), .second, .val (.int wh), .val (.int (bi (¬ (wh = (0 : Int32))))), .unset, .unset, .unset, .unset, .unset, .unset, .unset] [(.int (1 : Int32)), (.int wh)])) t := by
    intro t k
    show Steps p.tables e below (s₁.setTop (mkF m 166 #[.val (.long y1), .second, .val (.long y2), .second, .val (.long z3), .second, .val (.long y4), .second, .val (.int mode), .val (.long (-18014398509481984 : Int64)), .second, .val (.long (-288230376151711744 : Int64)), .second, .val (.long (-1018231460777725123 : Int64)), .second, .val (.long ky1), .second, .val (.long ky2), .second, .val (.long ky3), .second, .val (.long ky4), .second, .val (.int wh), .val (.int (bi (¬ (wh = (0 : Int32))))), .unset, .unset, .unset, .unset, .unset, .unset, .unset] [(.int (1 : Int32)), (.int wh)])) t
    by_cases h23 : (wh = (1 : Int32))
    · refine XS.icmpNo X0.here hx rfl (hb hby at_166) rfl (teq h23).2 ?_
      show Steps p.tables e below (s₁.setTop (mkF m 169 #[.val (.long y1), .second, .val (.long y2), .second, .val (.long z3), .second, .val (.long y4), .second, .val (.int mode), .val (.long (-18014398509481984 : Int64)), .second, .val (.long (-288230376151711744 : Int64)), .second, .val (.long (-1018231460777725123 : Int64)), .second, .val (.long ky1), .second, .val (.long ky2), .second, .val (.long ky3), .second, .val (.long ky4), .second, .val (.int wh), .val (.int (bi (¬ (wh = (0 : Int32))))), .unset, .unset, .unset, .unset, .unset, .unset, .unset] [])) t
      refine XS.lload X0.here hx rfl (hb hby at_169) rfl ?_
      show Steps p.tables e below (s₁.setTop (mkF m 171 #[.val (.long y1), .second, .val (.long y2), .second, .val (.long z3), .second, .val (.long y4), .second, .val (.int mode), .val (.long (-18014398509481984 : Int64)), .second, .val (.long (-288230376151711744 : Int64)), .second, .val (.long (-1018231460777725123 : Int64)), .second, .val (.long ky1), .second, .val (.long ky2), .second, .val (.long ky3), .second, .val (.long ky4), .second, .val (.int wh), .val (.int (bi (¬ (wh = (0 : Int32))))), .unset, .unset, .unset, .unset, .unset, .unset, .unset] [(.long ky1)])) t
      refine XS.goto X0.here hx rfl (pc0 := 171) (pc' := 187) rfl (hb hby at_171) (by decide) (by decide) ?_
      show Steps p.tables e below (s₁.setTop (mkF m 187 #[.val (.long y1), .second, .val (.long y2), .second, .val (.long z3), .second, .val (.long y4), .second, .val (.int mode), .val (.long (-18014398509481984 : Int64)), .second, .val (.long (-288230376151711744 : Int64)), .second, .val (.long (-1018231460777725123 : Int64)), .second, .val (.long ky1), .second, .val (.long ky2), .second, .val (.long ky3), .second, .val (.long ky4), .second, .val (.int wh), .val (.int (bi (¬ (wh = (0 : Int32))))), .unset, .unset, .unset, .unset, .unset, .unset, .unset] [(.long ky1)])) t
      exact (castTop (congrArg (fun zq_ => (mkF m 187 #[.val (.long y1), .second, .val (.long y2), .second, .val (.long z3), .second, .val (.long y4), .second, .val (.int mode), .val (.long (-18014398509481984 : Int64)), .second, .val (.long (-288230376151711744 : Int64)), .second, .val (.long (-1018231460777725123 : Int64)), .second, .val (.long ky1), .second, .val (.long ky2), .second, .val (.long ky3), .second, .val (.long ky4), .second, .val (.int wh), .val (.int (bi (¬ (wh = (0 : Int32))))), .unset, .unset, .unset, .unset, .unset, .unset, .unset] [(.long zq_)])) (show ky1 = (if (wh = (1 : Int32)) then ky1 else (if (wh = (2 : Int32)) then ky2 else ky3)) by rw [if_pos h23])) k)
    · refine XS.icmpYes X0.here hx rfl (pc0 := 166) (pc' := 174) rfl (hb hby at_166) rfl (feq h23).2 (by decide) (by decide) ?_
      show Steps p.tables e below (s₁.setTop (mkF m 174 #[.val (.long y1), .second, .val (.long y2), .second, .val (.long z3), .second, .val (.long y4), .second, .val (.int mode), .val (.long (-18014398509481984 : Int64)), .second, .val (.long (-288230376151711744 : Int64)), .second, .val (.long (-1018231460777725123 : Int64)), .second, .val (.long ky1), .second, .val (.long ky2), .second, .val (.long ky3), .second, .val (.long ky4), .second, .val (.int wh), .val (.int (bi (¬ (wh = (0 : Int32))))), .unset, .unset, .unset, .unset, .unset, .unset, .unset] [])) t
      refine XS.iload X0.here hx rfl (hb hby at_174) rfl ?_
      show Steps p.tables e below (s₁.setTop (mkF m 176 #[.val (.long y1), .second, .val (.long y2), .second, .val (.long z3), .second, .val (.long y4), .second, .val (.int mode), .val (.long (-18014398509481984 : Int64)), .second, .val (.long (-288230376151711744 : Int64)), .second, .val (.long (-1018231460777725123 : Int64)), .second, .val (.long ky1), .second, .val (.long ky2), .second, .val (.long ky3), .second, .val (.long ky4), .second, .val (.int wh), .val (.int (bi (¬ (wh = (0 : Int32))))), .unset, .unset, .unset, .unset, .unset, .unset, .unset] [(.int wh)])) t
      refine XS.iconst X0.here hx rfl (hb hby at_176) ?_
      show Steps p.tables e below (s₁.setTop (mkF m 177 #[.val (.long y1), .second, .val (.long y2), .second, .val (.long z3), .second, .val (.long y4), .second, .val (.int mode), .val (.long (-18014398509481984 : Int64)), .second, .val (.long (-288230376151711744 : Int64)), .second, .val (.long (-1018231460777725123 : Int64)), .second, .val (.long ky1), .second, .val (.long ky2), .second, .val (.long ky3), .second, .val (.long ky4), .second, .val (.int wh), .val (.int (bi (¬ (wh = (0 : Int32))))), .unset, .unset, .unset, .unset, .unset, .unset, .unset] [(.int (2 : Int32)), (.int wh)])) t
      by_cases h24 : (wh = (2 : Int32))
      · refine XS.icmpNo X0.here hx rfl (hb hby at_177) rfl (teq h24).2 ?_
        show Steps p.tables e below (s₁.setTop (mkF m 180 #[.val (.long y1), .second, .val (.long y2), .second, .val (.long z3), .second, .val (.long y4), .second, .val (.int mode), .val (.long (-18014398509481984 : Int64)), .second, .val (.long (-288230376151711744 : Int64)), .second, .val (.long (-1018231460777725123 : Int64)), .second, .val (.long ky1), .second, .val (.long ky2), .second, .val (.long ky3), .second, .val (.long ky4), .second, .val (.int wh), .val (.int (bi (¬ (wh = (0 : Int32))))), .unset, .unset, .unset, .unset, .unset, .unset, .unset] [])) t
        refine XS.lload X0.here hx rfl (hb hby at_180) rfl ?_
        show Steps p.tables e below (s₁.setTop (mkF m 182 #[.val (.long y1), .second, .val (.long y2), .second, .val (.long z3), .second, .val (.long y4), .second, .val (.int mode), .val (.long (-18014398509481984 : Int64)), .second, .val (.long (-288230376151711744 : Int64)), .second, .val (.long (-1018231460777725123 : Int64)), .second, .val (.long ky1), .second, .val (.long ky2), .second, .val (.long ky3), .second, .val (.long ky4), .second, .val (.int wh), .val (.int (bi (¬ (wh = (0 : Int32))))), .unset, .unset, .unset, .unset, .unset, .unset, .unset] [(.long ky2)])) t
        refine XS.goto X0.here hx rfl (pc0 := 182) (pc' := 187) rfl (hb hby at_182) (by decide) (by decide) ?_
        show Steps p.tables e below (s₁.setTop (mkF m 187 #[.val (.long y1), .second, .val (.long y2), .second, .val (.long z3), .second, .val (.long y4), .second, .val (.int mode), .val (.long (-18014398509481984 : Int64)), .second, .val (.long (-288230376151711744 : Int64)), .second, .val (.long (-1018231460777725123 : Int64)), .second, .val (.long ky1), .second, .val (.long ky2), .second, .val (.long ky3), .second, .val (.long ky4), .second, .val (.int wh), .val (.int (bi (¬ (wh = (0 : Int32))))), .unset, .unset, .unset, .unset, .unset, .unset, .unset] [(.long ky2)])) t
        exact (castTop (congrArg (fun zq_ => (mkF m 187 #[.val (.long y1), .second, .val (.long y2), .second, .val (.long z3), .second, .val (.long y4), .second, .val (.int mode), .val (.long (-18014398509481984 : Int64)), .second, .val (.long (-288230376151711744 : Int64)), .second, .val (.long (-1018231460777725123 : Int64)), .second, .val (.long ky1), .second, .val (.long ky2), .second, .val (.long ky3), .second, .val (.long ky4), .second, .val (.int wh), .val (.int (bi (¬ (wh = (0 : Int32))))), .unset, .unset, .unset, .unset, .unset, .unset, .unset] [(.long zq_)])) (show ky2 = (if (wh = (1 : Int32)) then ky1 else (if (wh = (2 : Int32)) then ky2 else ky3)) by rw [if_neg h23, if_pos h24])) k)
      · refine XS.icmpYes X0.here hx rfl (pc0 := 177) (pc' := 185) rfl (hb hby at_177) rfl (feq h24).2 (by decide) (by decide) ?_
        show Steps p.tables e below (s₁.setTop (mkF m 185 #[.val (.long y1), .second, .val (.long y2), .second, .val (.long z3), .second, .val (.long y4), .second, .val (.int mode), .val (.long (-18014398509481984 : Int64)), .second, .val (.long (-288230376151711744 : Int64)), .second, .val (.long (-1018231460777725123 : Int64)), .second, .val (.long ky1), .second, .val (.long ky2), .second, .val (.long ky3), .second, .val (.long ky4), .second, .val (.int wh), .val (.int (bi (¬ (wh = (0 : Int32))))), .unset, .unset, .unset, .unset, .unset, .unset, .unset] [])) t
        refine XS.lload X0.here hx rfl (hb hby at_185) rfl ?_
        show Steps p.tables e below (s₁.setTop (mkF m 187 #[.val (.long y1), .second, .val (.long y2), .second, .val (.long z3), .second, .val (.long y4), .second, .val (.int mode), .val (.long (-18014398509481984 : Int64)), .second, .val (.long (-288230376151711744 : Int64)), .second, .val (.long (-1018231460777725123 : Int64)), .second, .val (.long ky1), .second, .val (.long ky2), .second, .val (.long ky3), .second, .val (.long ky4), .second, .val (.int wh), .val (.int (bi (¬ (wh = (0 : Int32))))), .unset, .unset, .unset, .unset, .unset, .unset, .unset] [(.long ky3)])) t
        exact (castTop (congrArg (fun zq_ => (mkF m 187 #[.val (.long y1), .second, .val (.long y2), .second, .val (.long z3), .second, .val (.long y4), .second, .val (.int mode), .val (.long (-18014398509481984 : Int64)), .second, .val (.long (-288230376151711744 : Int64)), .second, .val (.long (-1018231460777725123 : Int64)), .second, .val (.long ky1), .second, .val (.long ky2), .second, .val (.long ky3), .second, .val (.long ky4), .second, .val (.int wh), .val (.int (bi (¬ (wh = (0 : Int32))))), .unset, .unset, .unset, .unset, .unset, .unset, .unset] [(.long zq_)])) (show ky3 = (if (wh = (1 : Int32)) then ky1 else (if (wh = (2 : Int32)) then ky2 else ky3)) by rw [if_neg h23, if_neg h24])) k)
  refine OFin.go J22 ?_
  have S25 : ∀ t, Steps p.tables e below (s₁.setTop (mkF m 189 #[.val (.long y1), .second, .val (.long y2), .second, .val (.long z3), .second, .val (.long y4), .second, .val (.int mode), .val (.long (-18014398509481984 : Int64)), .second, .val (.long (-288230376151711744 : Int64)), .second, .val (.long (-1018231460777725123 : Int64)), .second, .val (.long ky1), .second, .val (.long ky2), .second, .val (.long ky3), .second, .val (.long ky4), .second, .val (.int wh), .val (.int (bi (¬ (wh = (0 : Int32))))), .val (.long (if (wh = (1 : Int32)) then ky1 else (if (wh = (2 : Int32)) then ky2 else ky3))), .second, .unset, .unset, .unset, .unset, .unset] [])) t → Steps p.tables e below (s₁.setTop (mkF m 187 #[.val (.long y1), .second, .val (.long y2), .second, .val (.long z3), .second, .val (.long y4), .second, .val (.int mode), .val (.long (-18014398509481984 : Int64)), .second, .val (.long (-288230376151711744 : Int64)), .second, .val (.long (-1018231460777725123 : Int64)), .second, .val (.long ky1), .second, .val (.long ky2), .second, .val (.long ky3), .second, .val (.long ky4), .second, .val (.int wh), .val (.int (bi (¬ (wh = (0 : Int32))))), .unset, .unset, .unset, .unset, .unset, .unset, .unset] [(.long (if (wh = (1 : Int32)) then ky1 else (if (wh = (2 : Int32)) then ky2 else ky3)))])) t := by
    intro t k
    show Steps p.tables e below (s₁.setTop (mkF m 187 #[.val (.long y1), .second, .val (.long y2), .second, .val (.long z3), .second, .val (.long y4), .second, .val (.int mode), .val (.long (-18014398509481984 : Int64)), .second, .val (.long (-288230376151711744 : Int64)), .second, .val (.long (-1018231460777725123 : Int64)), .second, .val (.long ky1), .second, .val (.long ky2), .second, .val (.long ky3), .second, .val (.long ky4), .second, .val (.int wh), .val (.int (bi (¬ (wh = (0 : Int32))))), .unset, .unset, .unset, .unset, .unset, .unset, .unset] [(.long (if (wh = (1 : Int32)) then ky1 else (if (wh = (2 : Int32)) then ky2 else ky3)))])) t
    refine XS.lstore X0.here hx rfl (hb hby at_187) rfl (l' := #[.val (.long y1), .second, .val (.long y2), .second, .val (.long z3), .second, .val (.long y4), .second, .val (.int mode), .val (.long (-18014398509481984 : Int64)), .second, .val (.long (-288230376151711744 : Int64)), .second, .val (.long (-1018231460777725123 : Int64)), .second, .val (.long ky1), .second, .val (.long ky2), .second, .val (.long ky3), .second, .val (.long ky4), .second, .val (.int wh), .val (.int (bi (¬ (wh = (0 : Int32))))), .val (.long (if (wh = (1 : Int32)) then ky1 else (if (wh = (2 : Int32)) then ky2 else ky3))), .second, .unset, .unset, .unset, .unset, .unset]) rfl ?_
    exact k
  refine OFin.go S25 ?_
  obtain ⟨rr, hrr⟩ : ∃ z : Int64, z = (if (wh = (1 : Int32)) then ky1 else (if (wh = (2 : Int32)) then ky2 else ky3)) := ⟨_, rfl⟩
  rw [← hrr]
  show OFin p e below _ (s₁.setTop (mkF m 189 #[.val (.long y1), .second, .val (.long y2), .second, .val (.long z3), .second, .val (.long y4), .second, .val (.int mode), .val (.long (-18014398509481984 : Int64)), .second, .val (.long (-288230376151711744 : Int64)), .second, .val (.long (-1018231460777725123 : Int64)), .second, .val (.long ky1), .second, .val (.long ky2), .second, .val (.long ky3), .second, .val (.long ky4), .second, .val (.int wh), .val (.int (bi (¬ (wh = (0 : Int32))))), .val (.long rr), .second, .unset, .unset, .unset, .unset, .unset] []))
  obtain ⟨T26, h26, X26, e26, E26, A26, D26, -, st26⟩ := newO X0 hx hZ hown (hw _ (List.mem_of_getElem? (i := 4) rfl)) (hw _ (List.mem_of_getElem? (i := 5) rfl)) (hw _ (List.mem_of_getElem? (i := 6) rfl)) e0 (g := (mkF m 189 #[.val (.long y1), .second, .val (.long y2), .second, .val (.long z3), .second, .val (.long y4), .second, .val (.int mode), .val (.long (-18014398509481984 : Int64)), .second, .val (.long (-288230376151711744 : Int64)), .second, .val (.long (-1018231460777725123 : Int64)), .second, .val (.long ky1), .second, .val (.long ky2), .second, .val (.long ky3), .second, .val (.long ky4), .second, .val (.int wh), .val (.int (bi (¬ (wh = (0 : Int32))))), .val (.long rr), .second, .unset, .unset, .unset, .unset, .unset] [])) rfl (hb hby at_189) (Nat.le_of_ble_eq_true rfl) (Nat.le_of_ble_eq_true rfl)
  obtain ⟨b26, g26⟩ : ∃ z, z = h0.size := ⟨_, rfl⟩
  rw [← g26] at A26 D26 st26
  have ge26 : n0 ≤ b26 := Nat.le_trans Z0 (Nat.le_of_eq g26.symm)
  have Z26 : n0 ≤ h26.size := Nat.le_trans Z0 E26.1
  have F26_parts : Fld Z h26 b26 "com/example/clockwrap/clockwrap/store/LongTable" "parts" "[Lcom/example/clockwrap/clockwrap/store/LongTable$Part;" .null := D26 (Or.inr (hw _ (List.mem_of_getElem? (i := 16) rfl))) (ty := (.array (.object "com/example/clockwrap/clockwrap/store/LongTable$Part"))) (by decide)
  have F26_size : Fld Z h26 b26 "com/example/clockwrap/clockwrap/store/LongTable" "size" "I" (.int (0 : Int32)) := D26 (Or.inl (hw _ (List.mem_of_getElem? (i := 67) rfl))) (ty := .int) (by decide)
  have F26_hasZero : Fld Z h26 b26 "com/example/clockwrap/clockwrap/store/LongTable" "hasZero" "Z" (.int (0 : Int32)) := D26 (Or.inl (hw _ (List.mem_of_getElem? (i := 97) rfl))) (ty := .boolean) (by decide)
  have F26_zeroValue : Fld Z h26 b26 "com/example/clockwrap/clockwrap/store/LongTable" "zeroValue" "J" (.long (0 : Int64)) := D26 (Or.inl (hw _ (List.mem_of_getElem? (i := 99) rfl))) (ty := .long) (by decide)
  refine OFin.go st26 ?_
  show OFin p e below _ (T26.setTop (mkF m 192 #[.val (.long y1), .second, .val (.long y2), .second, .val (.long z3), .second, .val (.long y4), .second, .val (.int mode), .val (.long (-18014398509481984 : Int64)), .second, .val (.long (-288230376151711744 : Int64)), .second, .val (.long (-1018231460777725123 : Int64)), .second, .val (.long ky1), .second, .val (.long ky2), .second, .val (.long ky3), .second, .val (.long ky4), .second, .val (.int wh), .val (.int (bi (¬ (wh = (0 : Int32))))), .val (.long rr), .second, .unset, .unset, .unset, .unset, .unset] [(.ref b26)]))
  have S27 : ∀ t, Steps p.tables e below (T26.setTop (mkF m 193 #[.val (.long y1), .second, .val (.long y2), .second, .val (.long z3), .second, .val (.long y4), .second, .val (.int mode), .val (.long (-18014398509481984 : Int64)), .second, .val (.long (-288230376151711744 : Int64)), .second, .val (.long (-1018231460777725123 : Int64)), .second, .val (.long ky1), .second, .val (.long ky2), .second, .val (.long ky3), .second, .val (.long ky4), .second, .val (.int wh), .val (.int (bi (¬ (wh = (0 : Int32))))), .val (.long rr), .second, .unset, .unset, .unset, .unset, .unset] [(.ref b26), (.ref b26)])) t → Steps p.tables e below (T26.setTop (mkF m 192 #[.val (.long y1), .second, .val (.long y2), .second, .val (.long z3), .second, .val (.long y4), .second, .val (.int mode), .val (.long (-18014398509481984 : Int64)), .second, .val (.long (-288230376151711744 : Int64)), .second, .val (.long (-1018231460777725123 : Int64)), .second, .val (.long ky1), .second, .val (.long ky2), .second, .val (.long ky3), .second, .val (.long ky4), .second, .val (.int wh), .val (.int (bi (¬ (wh = (0 : Int32))))), .val (.long rr), .second, .unset, .unset, .unset, .unset, .unset] [(.ref b26)])) t := by
    intro t k
    show Steps p.tables e below (T26.setTop (mkF m 192 #[.val (.long y1), .second, .val (.long y2), .second, .val (.long z3), .second, .val (.long y4), .second, .val (.int mode), .val (.long (-18014398509481984 : Int64)), .second, .val (.long (-288230376151711744 : Int64)), .second, .val (.long (-1018231460777725123 : Int64)), .second, .val (.long ky1), .second, .val (.long ky2), .second, .val (.long ky3), .second, .val (.long ky4), .second, .val (.int wh), .val (.int (bi (¬ (wh = (0 : Int32))))), .val (.long rr), .second, .unset, .unset, .unset, .unset, .unset] [(.ref b26)])) t
    refine XS.dup X26.here hx rfl (hb hby at_192) rfl rfl ?_
    exact k
  refine OFin.go S27 ?_
  obtain ⟨_, T28, Lc28, X28, hQ28, st28⟩ := specQ X26 hx hZ (y := (⟨"com/example/clockwrap/clockwrap/store/LongTable", "<init>", "()V"⟩ : MethodName)) rfl hown (hw _ (List.mem_of_getElem? (i := 7) rfl)) (hw _ (List.mem_of_getElem? (i := 8) rfl)) (hw _ (List.mem_of_getElem? (i := 6) rfl)) (hw _ (List.mem_of_getElem? (i := 9) rfl)) (by decide) (a := b26) (argsL := []) (rest := [(.ref b26)]) (rm1 l Z a0 hw [] b26 h26 n0 Z26 ge26 A26 F26_parts F26_size F26_hasZero F26_zeroValue) (W := 1) (by decide) (by decide) e26 (g := (mkF m 193 #[.val (.long y1), .second, .val (.long y2), .second, .val (.long z3), .second, .val (.long y4), .second, .val (.int mode), .val (.long (-18014398509481984 : Int64)), .second, .val (.long (-288230376151711744 : Int64)), .second, .val (.long (-1018231460777725123 : Int64)), .second, .val (.long ky1), .second, .val (.long ky2), .second, .val (.long ky3), .second, .val (.long ky4), .second, .val (.int wh), .val (.int (bi (¬ (wh = (0 : Int32))))), .val (.long rr), .second, .unset, .unset, .unset, .unset, .unset] [(.ref b26), (.ref b26)])) rfl (by rw [hml]; rfl) (lenOf pd_4 rfl) rfl (by show 2 * 0 + _ ≤ _; exact Nat.le_of_eq rfl) (hb hby at_193) (Nat.le_of_ble_eq_true rfl) (Nat.le_of_ble_eq_true rfl)
  obtain ⟨Wl28, rfl, N28q, K28q, Tb28⟩ := hQ28
  have Z28 : n0 ≤ T28.heap.size := Nat.le_trans Z26 K28q.1
  have N28 := Fr.app N0 N28q
  refine OFin.go st28 ?_
  show OFin p e below _ (T28.setTop (mkF m 196 #[.val (.long y1), .second, .val (.long y2), .second, .val (.long z3), .second, .val (.long y4), .second, .val (.int mode), .val (.long (-18014398509481984 : Int64)), .second, .val (.long (-288230376151711744 : Int64)), .second, .val (.long (-1018231460777725123 : Int64)), .second, .val (.long ky1), .second, .val (.long ky2), .second, .val (.long ky3), .second, .val (.long ky4), .second, .val (.int wh), .val (.int (bi (¬ (wh = (0 : Int32))))), .val (.long rr), .second, .unset, .unset, .unset, .unset, .unset] [(.ref b26)]))
  have S29 : ∀ t, Steps p.tables e below (T28.setTop (mkF m 202 #[.val (.long y1), .second, .val (.long y2), .second, .val (.long z3), .second, .val (.long y4), .second, .val (.int mode), .val (.long (-18014398509481984 : Int64)), .second, .val (.long (-288230376151711744 : Int64)), .second, .val (.long (-1018231460777725123 : Int64)), .second, .val (.long ky1), .second, .val (.long ky2), .second, .val (.long ky3), .second, .val (.long ky4), .second, .val (.int wh), .val (.int (bi (¬ (wh = (0 : Int32))))), .val (.long rr), .second, .val (.ref b26), .unset, .unset, .unset, .unset] [(.long ky1), (.ref b26)])) t → Steps p.tables e below (T28.setTop (mkF m 196 #[.val (.long y1), .second, .val (.long y2), .second, .val (.long z3), .second, .val (.long y4), .second, .val (.int mode), .val (.long (-18014398509481984 : Int64)), .second, .val (.long (-288230376151711744 : Int64)), .second, .val (.long (-1018231460777725123 : Int64)), .second, .val (.long ky1), .second, .val (.long ky2), .second, .val (.long ky3), .second, .val (.long ky4), .second, .val (.int wh), .val (.int (bi (¬ (wh = (0 : Int32))))), .val (.long rr), .second, .unset, .unset, .unset, .unset, .unset] [(.ref b26)])) t := by
    intro t k
    show Steps p.tables e below (T28.setTop (mkF m 196 #[.val (.long y1), .second, .val (.long y2), .second, .val (.long z3), .second, .val (.long y4), .second, .val (.int mode), .val (.long (-18014398509481984 : Int64)), .second, .val (.long (-288230376151711744 : Int64)), .second, .val (.long (-1018231460777725123 : Int64)), .second, .val (.long ky1), .second, .val (.long ky2), .second, .val (.long ky3), .second, .val (.long ky4), .second, .val (.int wh), .val (.int (bi (¬ (wh = (0 : Int32))))), .val (.long rr), .second, .unset, .unset, .unset, .unset, .unset] [(.ref b26)])) t
    refine XS.astore X28.here hx rfl (hb hby at_196) rfl rfl (l' := #[.val (.long y1), .second, .val (.long y2), .second, .val (.long z3), .second, .val (.long y4), .second, .val (.int mode), .val (.long (-18014398509481984 : Int64)), .second, .val (.long (-288230376151711744 : Int64)), .second, .val (.long (-1018231460777725123 : Int64)), .second, .val (.long ky1), .second, .val (.long ky2), .second, .val (.long ky3), .second, .val (.long ky4), .second, .val (.int wh), .val (.int (bi (¬ (wh = (0 : Int32))))), .val (.long rr), .second, .val (.ref b26), .unset, .unset, .unset, .unset]) rfl ?_
    show Steps p.tables e below (T28.setTop (mkF m 198 #[.val (.long y1), .second, .val (.long y2), .second, .val (.long z3), .second, .val (.long y4), .second, .val (.int mode), .val (.long (-18014398509481984 : Int64)), .second, .val (.long (-288230376151711744 : Int64)), .second, .val (.long (-1018231460777725123 : Int64)), .second, .val (.long ky1), .second, .val (.long ky2), .second, .val (.long ky3), .second, .val (.long ky4), .second, .val (.int wh), .val (.int (bi (¬ (wh = (0 : Int32))))), .val (.long rr), .second, .val (.ref b26), .unset, .unset, .unset, .unset] [])) t
    refine XS.aload X28.here hx rfl (hb hby at_198) rfl rfl ?_
    show Steps p.tables e below (T28.setTop (mkF m 200 #[.val (.long y1), .second, .val (.long y2), .second, .val (.long z3), .second, .val (.long y4), .second, .val (.int mode), .val (.long (-18014398509481984 : Int64)), .second, .val (.long (-288230376151711744 : Int64)), .second, .val (.long (-1018231460777725123 : Int64)), .second, .val (.long ky1), .second, .val (.long ky2), .second, .val (.long ky3), .second, .val (.long ky4), .second, .val (.int wh), .val (.int (bi (¬ (wh = (0 : Int32))))), .val (.long rr), .second, .val (.ref b26), .unset, .unset, .unset, .unset] [(.ref b26)])) t
    refine XS.lload X28.here hx rfl (hb hby at_200) rfl ?_
    exact k
  refine OFin.go S29 ?_
  obtain ⟨_, T30, Lc30, X30, hQ30, st30⟩ := virtQ X28 hx hZ (y := (⟨"com/example/clockwrap/clockwrap/store/LongTable", "add", "(J)Z"⟩ : MethodName)) hown (hw _ (List.mem_of_getElem? (i := 34) rfl)) (hw _ (List.mem_of_getElem? (i := 36) rfl)) (hw _ (List.mem_of_getElem? (i := 6) rfl)) (hw _ (List.mem_of_getElem? (i := 38) rfl)) (hw _ (List.mem_of_getElem? (i := 35) rfl)) (hw _ (List.mem_of_getElem? (i := 37) rfl)) (by decide) Tb28.exa (argsL := [(.long ky1)]) (rest := []) (rm5 l Z a0 hw [] b26 ky1 Wl28 0 eM T28.heap n0 Z28 Tb28 (by decide)) (W := 0) (by decide) (by decide) rfl (g := (mkF m 202 #[.val (.long y1), .second, .val (.long y2), .second, .val (.long z3), .second, .val (.long y4), .second, .val (.int mode), .val (.long (-18014398509481984 : Int64)), .second, .val (.long (-288230376151711744 : Int64)), .second, .val (.long (-1018231460777725123 : Int64)), .second, .val (.long ky1), .second, .val (.long ky2), .second, .val (.long ky3), .second, .val (.long ky4), .second, .val (.int wh), .val (.int (bi (¬ (wh = (0 : Int32))))), .val (.long rr), .second, .val (.ref b26), .unset, .unset, .unset, .unset] [(.long ky1), (.ref b26)])) rfl (by rw [hml]; rfl) (lenOf pd_6 rfl) rfl (by show 2 * 0 + _ ≤ _; exact Nat.le_of_eq rfl) (hb hby at_202) (Nat.le_of_ble_eq_true rfl) (Nat.le_of_ble_eq_true rfl)
  obtain ⟨bb30, Wl30, rfl, N30q, K30q, Tb30, sb30⟩ := hQ30
  have Z30 : n0 ≤ T30.heap.size := Nat.le_trans Z28 K30q.1
  have N30 := Fr.app N28 N30q
  refine OFin.go st30 ?_
  show OFin p e below _ (T30.setTop (mkF m 205 #[.val (.long y1), .second, .val (.long y2), .second, .val (.long z3), .second, .val (.long y4), .second, .val (.int mode), .val (.long (-18014398509481984 : Int64)), .second, .val (.long (-288230376151711744 : Int64)), .second, .val (.long (-1018231460777725123 : Int64)), .second, .val (.long ky1), .second, .val (.long ky2), .second, .val (.long ky3), .second, .val (.long ky4), .second, .val (.int wh), .val (.int (bi (¬ (wh = (0 : Int32))))), .val (.long rr), .second, .val (.ref b26), .unset, .unset, .unset, .unset] [(.int bb30)]))
  have S31 : ∀ t, Steps p.tables e below (T30.setTop (mkF m 210 #[.val (.long y1), .second, .val (.long y2), .second, .val (.long z3), .second, .val (.long y4), .second, .val (.int mode), .val (.long (-18014398509481984 : Int64)), .second, .val (.long (-288230376151711744 : Int64)), .second, .val (.long (-1018231460777725123 : Int64)), .second, .val (.long ky1), .second, .val (.long ky2), .second, .val (.long ky3), .second, .val (.long ky4), .second, .val (.int wh), .val (.int (bi (¬ (wh = (0 : Int32))))), .val (.long rr), .second, .val (.ref b26), .unset, .unset, .unset, .unset] [(.long ky2), (.ref b26)])) t → Steps p.tables e below (T30.setTop (mkF m 205 #[.val (.long y1), .second, .val (.long y2), .second, .val (.long z3), .second, .val (.long y4), .second, .val (.int mode), .val (.long (-18014398509481984 : Int64)), .second, .val (.long (-288230376151711744 : Int64)), .second, .val (.long (-1018231460777725123 : Int64)), .second, .val (.long ky1), .second, .val (.long ky2), .second, .val (.long ky3), .second, .val (.long ky4), .second, .val (.int wh), .val (.int (bi (¬ (wh = (0 : Int32))))), .val (.long rr), .second, .val (.ref b26), .unset, .unset, .unset, .unset] [(.int bb30)])) t := by
    intro t k
    show Steps p.tables e below (T30.setTop (mkF m 205 #[.val (.long y1), .second, .val (.long y2), .second, .val (.long z3), .second, .val (.long y4), .second, .val (.int mode), .val (.long (-18014398509481984 : Int64)), .second, .val (.long (-288230376151711744 : Int64)), .second, .val (.long (-1018231460777725123 : Int64)), .second, .val (.long ky1), .second, .val (.long ky2), .second, .val (.long ky3), .second, .val (.long ky4), .second, .val (.int wh), .val (.int (bi (¬ (wh = (0 : Int32))))), .val (.long rr), .second, .val (.ref b26), .unset, .unset, .unset, .unset] [(.int bb30)])) t
    refine XS.pop X30.here hx rfl (hb hby at_205) rfl rfl ?_
    show Steps p.tables e below (T30.setTop (mkF m 206 #[.val (.long y1), .second, .val (.long y2), .second, .val (.long z3), .second, .val (.long y4), .second, .val (.int mode), .val (.long (-18014398509481984 : Int64)), .second, .val (.long (-288230376151711744 : Int64)), .second, .val (.long (-1018231460777725123 : Int64)), .second, .val (.long ky1), .second, .val (.long ky2), .second, .val (.long ky3), .second, .val (.long ky4), .second, .val (.int wh), .val (.int (bi (¬ (wh = (0 : Int32))))), .val (.long rr), .second, .val (.ref b26), .unset, .unset, .unset, .unset] [])) t
    refine XS.aload X30.here hx rfl (hb hby at_206) rfl rfl ?_
    show Steps p.tables e below (T30.setTop (mkF m 208 #[.val (.long y1), .second, .val (.long y2), .second, .val (.long z3), .second, .val (.long y4), .second, .val (.int mode), .val (.long (-18014398509481984 : Int64)), .second, .val (.long (-288230376151711744 : Int64)), .second, .val (.long (-1018231460777725123 : Int64)), .second, .val (.long ky1), .second, .val (.long ky2), .second, .val (.long ky3), .second, .val (.long ky4), .second, .val (.int wh), .val (.int (bi (¬ (wh = (0 : Int32))))), .val (.long rr), .second, .val (.ref b26), .unset, .unset, .unset, .unset] [(.ref b26)])) t
    refine XS.lload X30.here hx rfl (hb hby at_208) rfl ?_
    exact k
  refine OFin.go S31 ?_
  obtain ⟨_, T32, Lc32, X32, hQ32, st32⟩ := virtQ X30 hx hZ (y := (⟨"com/example/clockwrap/clockwrap/store/LongTable", "add", "(J)Z"⟩ : MethodName)) hown (hw _ (List.mem_of_getElem? (i := 34) rfl)) (hw _ (List.mem_of_getElem? (i := 36) rfl)) (hw _ (List.mem_of_getElem? (i := 6) rfl)) (hw _ (List.mem_of_getElem? (i := 38) rfl)) (hw _ (List.mem_of_getElem? (i := 35) rfl)) (hw _ (List.mem_of_getElem? (i := 37) rfl)) (by decide) Tb30.exa (argsL := [(.long ky2)]) (rest := []) (rm5 l Z a0 hw [] b26 ky2 Wl30 (0 + 1) (addM ky1 eM) T30.heap n0 Z30 Tb30 (by decide)) (W := 0) (by decide) (by decide) rfl (g := (mkF m 210 #[.val (.long y1), .second, .val (.long y2), .second, .val (.long z3), .second, .val (.long y4), .second, .val (.int mode), .val (.long (-18014398509481984 : Int64)), .second, .val (.long (-288230376151711744 : Int64)), .second, .val (.long (-1018231460777725123 : Int64)), .second, .val (.long ky1), .second, .val (.long ky2), .second, .val (.long ky3), .second, .val (.long ky4), .second, .val (.int wh), .val (.int (bi (¬ (wh = (0 : Int32))))), .val (.long rr), .second, .val (.ref b26), .unset, .unset, .unset, .unset] [(.long ky2), (.ref b26)])) rfl (by rw [hml]; rfl) (lenOf pd_6 rfl) rfl (by show 2 * 0 + _ ≤ _; exact Nat.le_of_eq rfl) (hb hby at_210) (Nat.le_of_ble_eq_true rfl) (Nat.le_of_ble_eq_true rfl)
  obtain ⟨bb32, Wl32, rfl, N32q, K32q, Tb32, sb32⟩ := hQ32
  have Z32 : n0 ≤ T32.heap.size := Nat.le_trans Z30 K32q.1
  have N32 := Fr.app N30 N32q
  refine OFin.go st32 ?_
  show OFin p e below _ (T32.setTop (mkF m 213 #[.val (.long y1), .second, .val (.long y2), .second, .val (.long z3), .second, .val (.long y4), .second, .val (.int mode), .val (.long (-18014398509481984 : Int64)), .second, .val (.long (-288230376151711744 : Int64)), .second, .val (.long (-1018231460777725123 : Int64)), .second, .val (.long ky1), .second, .val (.long ky2), .second, .val (.long ky3), .second, .val (.long ky4), .second, .val (.int wh), .val (.int (bi (¬ (wh = (0 : Int32))))), .val (.long rr), .second, .val (.ref b26), .unset, .unset, .unset, .unset] [(.int bb32)]))
  have S33 : ∀ t, Steps p.tables e below (T32.setTop (mkF m 218 #[.val (.long y1), .second, .val (.long y2), .second, .val (.long z3), .second, .val (.long y4), .second, .val (.int mode), .val (.long (-18014398509481984 : Int64)), .second, .val (.long (-288230376151711744 : Int64)), .second, .val (.long (-1018231460777725123 : Int64)), .second, .val (.long ky1), .second, .val (.long ky2), .second, .val (.long ky3), .second, .val (.long ky4), .second, .val (.int wh), .val (.int (bi (¬ (wh = (0 : Int32))))), .val (.long rr), .second, .val (.ref b26), .unset, .unset, .unset, .unset] [(.long ky3), (.ref b26)])) t → Steps p.tables e below (T32.setTop (mkF m 213 #[.val (.long y1), .second, .val (.long y2), .second, .val (.long z3), .second, .val (.long y4), .second, .val (.int mode), .val (.long (-18014398509481984 : Int64)), .second, .val (.long (-288230376151711744 : Int64)), .second, .val (.long (-1018231460777725123 : Int64)), .second, .val (.long ky1), .second, .val (.long ky2), .second, .val (.long ky3), .second, .val (.long ky4), .second, .val (.int wh), .val (.int (bi (¬ (wh = (0 : Int32))))), .val (.long rr), .second, .val (.ref b26), .unset, .unset, .unset, .unset] [(.int bb32)])) t := by
    intro t k
    show Steps p.tables e below (T32.setTop (mkF m 213 #[.val (.long y1), .second, .val (.long y2), .second, .val (.long z3), .second, .val (.long y4), .second, .val (.int mode), .val (.long (-18014398509481984 : Int64)), .second, .val (.long (-288230376151711744 : Int64)), .second, .val (.long (-1018231460777725123 : Int64)), .second, .val (.long ky1), .second, .val (.long ky2), .second, .val (.long ky3), .second, .val (.long ky4), .second, .val (.int wh), .val (.int (bi (¬ (wh = (0 : Int32))))), .val (.long rr), .second, .val (.ref b26), .unset, .unset, .unset, .unset] [(.int bb32)])) t
    refine XS.pop X32.here hx rfl (hb hby at_213) rfl rfl ?_
    show Steps p.tables e below (T32.setTop (mkF m 214 #[.val (.long y1), .second, .val (.long y2), .second, .val (.long z3), .second, .val (.long y4), .second, .val (.int mode), .val (.long (-18014398509481984 : Int64)), .second, .val (.long (-288230376151711744 : Int64)), .second, .val (.long (-1018231460777725123 : Int64)), .second, .val (.long ky1), .second, .val (.long ky2), .second, .val (.long ky3), .second, .val (.long ky4), .second, .val (.int wh), .val (.int (bi (¬ (wh = (0 : Int32))))), .val (.long rr), .second, .val (.ref b26), .unset, .unset, .unset, .unset] [])) t
    refine XS.aload X32.here hx rfl (hb hby at_214) rfl rfl ?_
    show Steps p.tables e below (T32.setTop (mkF m 216 #[.val (.long y1), .second, .val (.long y2), .second, .val (.long z3), .second, .val (.long y4), .second, .val (.int mode), .val (.long (-18014398509481984 : Int64)), .second, .val (.long (-288230376151711744 : Int64)), .second, .val (.long (-1018231460777725123 : Int64)), .second, .val (.long ky1), .second, .val (.long ky2), .second, .val (.long ky3), .second, .val (.long ky4), .second, .val (.int wh), .val (.int (bi (¬ (wh = (0 : Int32))))), .val (.long rr), .second, .val (.ref b26), .unset, .unset, .unset, .unset] [(.ref b26)])) t
    refine XS.lload X32.here hx rfl (hb hby at_216) rfl ?_
    exact k
  refine OFin.go S33 ?_
  obtain ⟨_, T34, Lc34, X34, hQ34, st34⟩ := virtQ X32 hx hZ (y := (⟨"com/example/clockwrap/clockwrap/store/LongTable", "add", "(J)Z"⟩ : MethodName)) hown (hw _ (List.mem_of_getElem? (i := 34) rfl)) (hw _ (List.mem_of_getElem? (i := 36) rfl)) (hw _ (List.mem_of_getElem? (i := 6) rfl)) (hw _ (List.mem_of_getElem? (i := 38) rfl)) (hw _ (List.mem_of_getElem? (i := 35) rfl)) (hw _ (List.mem_of_getElem? (i := 37) rfl)) (by decide) Tb32.exa (argsL := [(.long ky3)]) (rest := []) (rm5 l Z a0 hw [] b26 ky3 Wl32 ((0 + 1) + 1) (addM ky2 (addM ky1 eM)) T32.heap n0 Z32 Tb32 (by decide)) (W := 0) (by decide) (by decide) rfl (g := (mkF m 218 #[.val (.long y1), .second, .val (.long y2), .second, .val (.long z3), .second, .val (.long y4), .second, .val (.int mode), .val (.long (-18014398509481984 : Int64)), .second, .val (.long (-288230376151711744 : Int64)), .second, .val (.long (-1018231460777725123 : Int64)), .second, .val (.long ky1), .second, .val (.long ky2), .second, .val (.long ky3), .second, .val (.long ky4), .second, .val (.int wh), .val (.int (bi (¬ (wh = (0 : Int32))))), .val (.long rr), .second, .val (.ref b26), .unset, .unset, .unset, .unset] [(.long ky3), (.ref b26)])) rfl (by rw [hml]; rfl) (lenOf pd_6 rfl) rfl (by show 2 * 0 + _ ≤ _; exact Nat.le_of_eq rfl) (hb hby at_218) (Nat.le_of_ble_eq_true rfl) (Nat.le_of_ble_eq_true rfl)
  obtain ⟨bb34, Wl34, rfl, N34q, K34q, Tb34, sb34⟩ := hQ34
  have Z34 : n0 ≤ T34.heap.size := Nat.le_trans Z32 K34q.1
  have N34 := Fr.app N32 N34q
  refine OFin.go st34 ?_
  show OFin p e below _ (T34.setTop (mkF m 221 #[.val (.long y1), .second, .val (.long y2), .second, .val (.long z3), .second, .val (.long y4), .second, .val (.int mode), .val (.long (-18014398509481984 : Int64)), .second, .val (.long (-288230376151711744 : Int64)), .second, .val (.long (-1018231460777725123 : Int64)), .second, .val (.long ky1), .second, .val (.long ky2), .second, .val (.long ky3), .second, .val (.long ky4), .second, .val (.int wh), .val (.int (bi (¬ (wh = (0 : Int32))))), .val (.long rr), .second, .val (.ref b26), .unset, .unset, .unset, .unset] [(.int bb34)]))
  have S35 : ∀ t, Steps p.tables e below (T34.setTop (mkF m 224 #[.val (.long y1), .second, .val (.long y2), .second, .val (.long z3), .second, .val (.long y4), .second, .val (.int mode), .val (.long (-18014398509481984 : Int64)), .second, .val (.long (-288230376151711744 : Int64)), .second, .val (.long (-1018231460777725123 : Int64)), .second, .val (.long ky1), .second, .val (.long ky2), .second, .val (.long ky3), .second, .val (.long ky4), .second, .val (.int wh), .val (.int (bi (¬ (wh = (0 : Int32))))), .val (.long rr), .second, .val (.ref b26), .unset, .unset, .unset, .unset] [(.int (bi (¬ (wh = (0 : Int32)))))])) t → Steps p.tables e below (T34.setTop (mkF m 221 #[.val (.long y1), .second, .val (.long y2), .second, .val (.long z3), .second, .val (.long y4), .second, .val (.int mode), .val (.long (-18014398509481984 : Int64)), .second, .val (.long (-288230376151711744 : Int64)), .second, .val (.long (-1018231460777725123 : Int64)), .second, .val (.long ky1), .second, .val (.long ky2), .second, .val (.long ky3), .second, .val (.long ky4), .second, .val (.int wh), .val (.int (bi (¬ (wh = (0 : Int32))))), .val (.long rr), .second, .val (.ref b26), .unset, .unset, .unset, .unset] [(.int bb34)])) t := by
    intro t k
    show Steps p.tables e below (T34.setTop (mkF m 221 #[.val (.long y1), .second, .val (.long y2), .second, .val (.long z3), .second, .val (.long y4), .second, .val (.int mode), .val (.long (-18014398509481984 : Int64)), .second, .val (.long (-288230376151711744 : Int64)), .second, .val (.long (-1018231460777725123 : Int64)), .second, .val (.long ky1), .second, .val (.long ky2), .second, .val (.long ky3), .second, .val (.long ky4), .second, .val (.int wh), .val (.int (bi (¬ (wh = (0 : Int32))))), .val (.long rr), .second, .val (.ref b26), .unset, .unset, .unset, .unset] [(.int bb34)])) t
    refine XS.pop X34.here hx rfl (hb hby at_221) rfl rfl ?_
    show Steps p.tables e below (T34.setTop (mkF m 222 #[.val (.long y1), .second, .val (.long y2), .second, .val (.long z3), .second, .val (.long y4), .second, .val (.int mode), .val (.long (-18014398509481984 : Int64)), .second, .val (.long (-288230376151711744 : Int64)), .second, .val (.long (-1018231460777725123 : Int64)), .second, .val (.long ky1), .second, .val (.long ky2), .second, .val (.long ky3), .second, .val (.long ky4), .second, .val (.int wh), .val (.int (bi (¬ (wh = (0 : Int32))))), .val (.long rr), .second, .val (.ref b26), .unset, .unset, .unset, .unset] [])) t
    refine XS.iload X34.here hx rfl (hb hby at_222) rfl ?_
    exact k
  refine OFin.go S35 ?_
  by_cases h36 : (¬ (wh = (0 : Int32)))
  · -- pc 224: (¬ (wh = (0 : Int32)))
    have S37 : ∀ t, Steps p.tables e below (T34.setTop (mkF m 227 #[.val (.long y1), .second, .val (.long y2), .second, .val (.long z3), .second, .val (.long y4), .second, .val (.int mode), .val (.long (-18014398509481984 : Int64)), .second, .val (.long (-288230376151711744 : Int64)), .second, .val (.long (-1018231460777725123 : Int64)), .second, .val (.long ky1), .second, .val (.long ky2), .second, .val (.long ky3), .second, .val (.long ky4), .second, .val (.int wh), .val (.int (bi (¬ (wh = (0 : Int32))))), .val (.long rr), .second, .val (.ref b26), .unset, .unset, .unset, .unset] [])) t → Steps p.tables e below (T34.setTop (mkF m 224 #[.val (.long y1), .second, .val (.long y2), .second, .val (.long z3), .second, .val (.long y4), .second, .val (.int mode), .val (.long (-18014398509481984 : Int64)), .second, .val (.long (-288230376151711744 : Int64)), .second, .val (.long (-1018231460777725123 : Int64)), .second, .val (.long ky1), .second, .val (.long ky2), .second, .val (.long ky3), .second, .val (.long ky4), .second, .val (.int wh), .val (.int (bi (¬ (wh = (0 : Int32))))), .val (.long rr), .second, .val (.ref b26), .unset, .unset, .unset, .unset] [(.int (bi (¬ (wh = (0 : Int32)))))])) t := by
      intro t k
      show Steps p.tables e below (T34.setTop (mkF m 224 #[.val (.long y1), .second, .val (.long y2), .second, .val (.long z3), .second, .val (.long y4), .second, .val (.int mode), .val (.long (-18014398509481984 : Int64)), .second, .val (.long (-288230376151711744 : Int64)), .second, .val (.long (-1018231460777725123 : Int64)), .second, .val (.long ky1), .second, .val (.long ky2), .second, .val (.long ky3), .second, .val (.long ky4), .second, .val (.int wh), .val (.int (bi (¬ (wh = (0 : Int32))))), .val (.long rr), .second, .val (.ref b26), .unset, .unset, .unset, .unset] [(.int (bi (¬ (wh = (0 : Int32)))))])) t
      refine XS.ifNo X34.here hx rfl (hb hby at_224) rfl (bi_eq_f h36) ?_
      exact k
    refine OFin.go S37 ?_
    have S38 : ∀ t, Steps p.tables e below (T34.setTop (mkF m 231 #[.val (.long y1), .second, .val (.long y2), .second, .val (.long z3), .second, .val (.long y4), .second, .val (.int mode), .val (.long (-18014398509481984 : Int64)), .second, .val (.long (-288230376151711744 : Int64)), .second, .val (.long (-1018231460777725123 : Int64)), .second, .val (.long ky1), .second, .val (.long ky2), .second, .val (.long ky3), .second, .val (.long ky4), .second, .val (.int wh), .val (.int (bi (¬ (wh = (0 : Int32))))), .val (.long rr), .second, .val (.ref b26), .unset, .unset, .unset, .unset] [(.long rr), (.ref b26)])) t → Steps p.tables e below (T34.setTop (mkF m 227 #[.val (.long y1), .second, .val (.long y2), .second, .val (.long z3), .second, .val (.long y4), .second, .val (.int mode), .val (.long (-18014398509481984 : Int64)), .second, .val (.long (-288230376151711744 : Int64)), .second, .val (.long (-1018231460777725123 : Int64)), .second, .val (.long ky1), .second, .val (.long ky2), .second, .val (.long ky3), .second, .val (.long ky4), .second, .val (.int wh), .val (.int (bi (¬ (wh = (0 : Int32))))), .val (.long rr), .second, .val (.ref b26), .unset, .unset, .unset, .unset] [])) t := by
      intro t k
      show Steps p.tables e below (T34.setTop (mkF m 227 #[.val (.long y1), .second, .val (.long y2), .second, .val (.long z3), .second, .val (.long y4), .second, .val (.int mode), .val (.long (-18014398509481984 : Int64)), .second, .val (.long (-288230376151711744 : Int64)), .second, .val (.long (-1018231460777725123 : Int64)), .second, .val (.long ky1), .second, .val (.long ky2), .second, .val (.long ky3), .second, .val (.long ky4), .second, .val (.int wh), .val (.int (bi (¬ (wh = (0 : Int32))))), .val (.long rr), .second, .val (.ref b26), .unset, .unset, .unset, .unset] [])) t
      refine XS.aload X34.here hx rfl (hb hby at_227) rfl rfl ?_
      show Steps p.tables e below (T34.setTop (mkF m 229 #[.val (.long y1), .second, .val (.long y2), .second, .val (.long z3), .second, .val (.long y4), .second, .val (.int mode), .val (.long (-18014398509481984 : Int64)), .second, .val (.long (-288230376151711744 : Int64)), .second, .val (.long (-1018231460777725123 : Int64)), .second, .val (.long ky1), .second, .val (.long ky2), .second, .val (.long ky3), .second, .val (.long ky4), .second, .val (.int wh), .val (.int (bi (¬ (wh = (0 : Int32))))), .val (.long rr), .second, .val (.ref b26), .unset, .unset, .unset, .unset] [(.ref b26)])) t
      refine XS.lload X34.here hx rfl (hb hby at_229) rfl ?_
      exact k
    refine OFin.go S38 ?_
    obtain ⟨_, T39, Lc39, X39, hQ39, st39⟩ := virtQ X34 hx hZ (y := (⟨"com/example/clockwrap/clockwrap/store/LongTable", "remove", "(J)Z"⟩ : MethodName)) hown (hw _ (List.mem_of_getElem? (i := 82) rfl)) (hw _ (List.mem_of_getElem? (i := 84) rfl)) (hw _ (List.mem_of_getElem? (i := 6) rfl)) (hw _ (List.mem_of_getElem? (i := 86) rfl)) (hw _ (List.mem_of_getElem? (i := 83) rfl)) (hw _ (List.mem_of_getElem? (i := 85) rfl)) (by decide) Tb34.exa (argsL := [(.long rr)]) (rest := []) (rm14 l Z a0 hw [] b26 rr Wl34 (((0 + 1) + 1) + 1) (addM ky3 (addM ky2 (addM ky1 eM))) T34.heap n0 Z34 Tb34 (by decide)) (W := 0) (by decide) (by decide) rfl (g := (mkF m 231 #[.val (.long y1), .second, .val (.long y2), .second, .val (.long z3), .second, .val (.long y4), .second, .val (.int mode), .val (.long (-18014398509481984 : Int64)), .second, .val (.long (-288230376151711744 : Int64)), .second, .val (.long (-1018231460777725123 : Int64)), .second, .val (.long ky1), .second, .val (.long ky2), .second, .val (.long ky3), .second, .val (.long ky4), .second, .val (.int wh), .val (.int (bi (¬ (wh = (0 : Int32))))), .val (.long rr), .second, .val (.ref b26), .unset, .unset, .unset, .unset] [(.long rr), (.ref b26)])) rfl (by rw [hml]; rfl) (lenOf pd_6 rfl) rfl (by show 2 * 0 + _ ≤ _; exact Nat.le_of_eq rfl) (hb hby at_231) (Nat.le_of_ble_eq_true rfl) (Nat.le_of_ble_eq_true rfl)
    obtain ⟨bb39, Wl39, rfl, N39q, K39q, Tb39, sb39⟩ := hQ39
    have Z39 : n0 ≤ T39.heap.size := Nat.le_trans Z34 K39q.1
    have N39 := Fr.app N34 N39q
    refine OFin.go st39 ?_
    show OFin p e below _ (T39.setTop (mkF m 234 #[.val (.long y1), .second, .val (.long y2), .second, .val (.long z3), .second, .val (.long y4), .second, .val (.int mode), .val (.long (-18014398509481984 : Int64)), .second, .val (.long (-288230376151711744 : Int64)), .second, .val (.long (-1018231460777725123 : Int64)), .second, .val (.long ky1), .second, .val (.long ky2), .second, .val (.long ky3), .second, .val (.long ky4), .second, .val (.int wh), .val (.int (bi (¬ (wh = (0 : Int32))))), .val (.long rr), .second, .val (.ref b26), .unset, .unset, .unset, .unset] [(.int bb39)]))
    have S40 : ∀ t, Steps p.tables e below (T39.setTop (mkF m 239 #[.val (.long y1), .second, .val (.long y2), .second, .val (.long z3), .second, .val (.long y4), .second, .val (.int mode), .val (.long (-18014398509481984 : Int64)), .second, .val (.long (-288230376151711744 : Int64)), .second, .val (.long (-1018231460777725123 : Int64)), .second, .val (.long ky1), .second, .val (.long ky2), .second, .val (.long ky3), .second, .val (.long ky4), .second, .val (.int wh), .val (.int (bi (¬ (wh = (0 : Int32))))), .val (.long rr), .second, .val (.ref b26), .unset, .unset, .unset, .unset] [(.long ky1), (.ref b26)])) t → Steps p.tables e below (T39.setTop (mkF m 234 #[.val (.long y1), .second, .val (.long y2), .second, .val (.long z3), .second, .val (.long y4), .second, .val (.int mode), .val (.long (-18014398509481984 : Int64)), .second, .val (.long (-288230376151711744 : Int64)), .second, .val (.long (-1018231460777725123 : Int64)), .second, .val (.long ky1), .second, .val (.long ky2), .second, .val (.long ky3), .second, .val (.long ky4), .second, .val (.int wh), .val (.int (bi (¬ (wh = (0 : Int32))))), .val (.long rr), .second, .val (.ref b26), .unset, .unset, .unset, .unset] [(.int bb39)])) t := by
      intro t k
      show Steps p.tables e below (T39.setTop (mkF m 234 #[.val (.long y1), .second, .val (.long y2), .second, .val (.long z3), .second, .val (.long y4), .second, .val (.int mode), .val (.long (-18014398509481984 : Int64)), .second, .val (.long (-288230376151711744 : Int64)), .second, .val (.long (-1018231460777725123 : Int64)), .second, .val (.long ky1), .second, .val (.long ky2), .second, .val (.long ky3), .second, .val (.long ky4), .second, .val (.int wh), .val (.int (bi (¬ (wh = (0 : Int32))))), .val (.long rr), .second, .val (.ref b26), .unset, .unset, .unset, .unset] [(.int bb39)])) t
      refine XS.pop X39.here hx rfl (hb hby at_234) rfl rfl ?_
      show Steps p.tables e below (T39.setTop (mkF m 235 #[.val (.long y1), .second, .val (.long y2), .second, .val (.long z3), .second, .val (.long y4), .second, .val (.int mode), .val (.long (-18014398509481984 : Int64)), .second, .val (.long (-288230376151711744 : Int64)), .second, .val (.long (-1018231460777725123 : Int64)), .second, .val (.long ky1), .second, .val (.long ky2), .second, .val (.long ky3), .second, .val (.long ky4), .second, .val (.int wh), .val (.int (bi (¬ (wh = (0 : Int32))))), .val (.long rr), .second, .val (.ref b26), .unset, .unset, .unset, .unset] [])) t
      refine XS.aload X39.here hx rfl (hb hby at_235) rfl rfl ?_
      show Steps p.tables e below (T39.setTop (mkF m 237 #[.val (.long y1), .second, .val (.long y2), .second, .val (.long z3), .second, .val (.long y4), .second, .val (.int mode), .val (.long (-18014398509481984 : Int64)), .second, .val (.long (-288230376151711744 : Int64)), .second, .val (.long (-1018231460777725123 : Int64)), .second, .val (.long ky1), .second, .val (.long ky2), .second, .val (.long ky3), .second, .val (.long ky4), .second, .val (.int wh), .val (.int (bi (¬ (wh = (0 : Int32))))), .val (.long rr), .second, .val (.ref b26), .unset, .unset, .unset, .unset] [(.ref b26)])) t
      refine XS.lload X39.here hx rfl (hb hby at_237) rfl ?_
      exact k
    refine OFin.go S40 ?_
    obtain ⟨_, T41, Lc41, X41, hQ41, st41⟩ := virtQ X39 hx hZ (y := (⟨"com/example/clockwrap/clockwrap/store/LongTable", "contains", "(J)Z"⟩ : MethodName)) hown (hw _ (List.mem_of_getElem? (i := 68) rfl)) (hw _ (List.mem_of_getElem? (i := 70) rfl)) (hw _ (List.mem_of_getElem? (i := 6) rfl)) (hw _ (List.mem_of_getElem? (i := 72) rfl)) (hw _ (List.mem_of_getElem? (i := 69) rfl)) (hw _ (List.mem_of_getElem? (i := 71) rfl)) (by decide) Tb39.exa (argsL := [(.long ky1)]) (rest := []) (rm11 l Z a0 hw [] b26 ky1 Wl39 ((((0 + 1) + 1) + 1) + 1) (remM rr (addM ky3 (addM ky2 (addM ky1 eM)))) T39.heap n0 Z39 Tb39 (by decide)) (W := 0) (by decide) (by decide) rfl (g := (mkF m 239 #[.val (.long y1), .second, .val (.long y2), .second, .val (.long z3), .second, .val (.long y4), .second, .val (.int mode), .val (.long (-18014398509481984 : Int64)), .second, .val (.long (-288230376151711744 : Int64)), .second, .val (.long (-1018231460777725123 : Int64)), .second, .val (.long ky1), .second, .val (.long ky2), .second, .val (.long ky3), .second, .val (.long ky4), .second, .val (.int wh), .val (.int (bi (¬ (wh = (0 : Int32))))), .val (.long rr), .second, .val (.ref b26), .unset, .unset, .unset, .unset] [(.long ky1), (.ref b26)])) rfl (by rw [hml]; rfl) (lenOf pd_6 rfl) rfl (by show 2 * 0 + _ ≤ _; exact Nat.le_of_eq rfl) (hb hby at_239) (Nat.le_of_ble_eq_true rfl) (Nat.le_of_ble_eq_true rfl)
    obtain ⟨bb41, rfl, N41q, e41, h01_41, hi_41⟩ := hQ41
    have N41 := Fr.app N39 N41q
    refine OFin.go st41 ?_
    show OFin p e below _ (T41.setTop (mkF m 242 #[.val (.long y1), .second, .val (.long y2), .second, .val (.long z3), .second, .val (.long y4), .second, .val (.int mode), .val (.long (-18014398509481984 : Int64)), .second, .val (.long (-288230376151711744 : Int64)), .second, .val (.long (-1018231460777725123 : Int64)), .second, .val (.long ky1), .second, .val (.long ky2), .second, .val (.long ky3), .second, .val (.long ky4), .second, .val (.int wh), .val (.int (bi (¬ (wh = (0 : Int32))))), .val (.long rr), .second, .val (.ref b26), .unset, .unset, .unset, .unset] [(.int bb41)]))
    have S42 : ∀ t, Steps p.tables e below (T41.setTop (mkF m 248 #[.val (.long y1), .second, .val (.long y2), .second, .val (.long z3), .second, .val (.long y4), .second, .val (.int mode), .val (.long (-18014398509481984 : Int64)), .second, .val (.long (-288230376151711744 : Int64)), .second, .val (.long (-1018231460777725123 : Int64)), .second, .val (.long ky1), .second, .val (.long ky2), .second, .val (.long ky3), .second, .val (.long ky4), .second, .val (.int wh), .val (.int (bi (¬ (wh = (0 : Int32))))), .val (.long rr), .second, .val (.ref b26), .val (.int bb41), .unset, .unset, .unset] [(.long ky2), (.ref b26)])) t → Steps p.tables e below (T41.setTop (mkF m 242 #[.val (.long y1), .second, .val (.long y2), .second, .val (.long z3), .second, .val (.long y4), .second, .val (.int mode), .val (.long (-18014398509481984 : Int64)), .second, .val (.long (-288230376151711744 : Int64)), .second, .val (.long (-1018231460777725123 : Int64)), .second, .val (.long ky1), .second, .val (.long ky2), .second, .val (.long ky3), .second, .val (.long ky4), .second, .val (.int wh), .val (.int (bi (¬ (wh = (0 : Int32))))), .val (.long rr), .second, .val (.ref b26), .unset, .unset, .unset, .unset] [(.int bb41)])) t := by
      intro t k
      show Steps p.tables e below (T41.setTop (mkF m 242 #[.val (.long y1), .second, .val (.long y2), .second, .val (.long z3), .second, .val (.long y4), .second, .val (.int mode), .val (.long (-18014398509481984 : Int64)), .second, .val (.long (-288230376151711744 : Int64)), .second, .val (.long (-1018231460777725123 : Int64)), .second, .val (.long ky1), .second, .val (.long ky2), .second, .val (.long ky3), .second, .val (.long ky4), .second, .val (.int wh), .val (.int (bi (¬ (wh = (0 : Int32))))), .val (.long rr), .second, .val (.ref b26), .unset, .unset, .unset, .unset] [(.int bb41)])) t
      refine XS.istore X41.here hx rfl (hb hby at_242) rfl (l' := #[.val (.long y1), .second, .val (.long y2), .second, .val (.long z3), .second, .val (.long y4), .second, .val (.int mode), .val (.long (-18014398509481984 : Int64)), .second, .val (.long (-288230376151711744 : Int64)), .second, .val (.long (-1018231460777725123 : Int64)), .second, .val (.long ky1), .second, .val (.long ky2), .second, .val (.long ky3), .second, .val (.long ky4), .second, .val (.int wh), .val (.int (bi (¬ (wh = (0 : Int32))))), .val (.long rr), .second, .val (.ref b26), .val (.int bb41), .unset, .unset, .unset]) rfl ?_
      show Steps p.tables e below (T41.setTop (mkF m 244 #[.val (.long y1), .second, .val (.long y2), .second, .val (.long z3), .second, .val (.long y4), .second, .val (.int mode), .val (.long (-18014398509481984 : Int64)), .second, .val (.long (-288230376151711744 : Int64)), .second, .val (.long (-1018231460777725123 : Int64)), .second, .val (.long ky1), .second, .val (.long ky2), .second, .val (.long ky3), .second, .val (.long ky4), .second, .val (.int wh), .val (.int (bi (¬ (wh = (0 : Int32))))), .val (.long rr), .second, .val (.ref b26), .val (.int bb41), .unset, .unset, .unset] [])) t
      refine XS.aload X41.here hx rfl (hb hby at_244) rfl rfl ?_
      show Steps p.tables e below (T41.setTop (mkF m 246 #[.val (.long y1), .second, .val (.long y2), .second, .val (.long z3), .second, .val (.long y4), .second, .val (.int mode), .val (.long (-18014398509481984 : Int64)), .second, .val (.long (-288230376151711744 : Int64)), .second, .val (.long (-1018231460777725123 : Int64)), .second, .val (.long ky1), .second, .val (.long ky2), .second, .val (.long ky3), .second, .val (.long ky4), .second, .val (.int wh), .val (.int (bi (¬ (wh = (0 : Int32))))), .val (.long rr), .second, .val (.ref b26), .val (.int bb41), .unset, .unset, .unset] [(.ref b26)])) t
      refine XS.lload X41.here hx rfl (hb hby at_246) rfl ?_
      exact k
    refine OFin.go S42 ?_
    obtain ⟨_, T43, Lc43, X43, hQ43, st43⟩ := virtQ X41 hx hZ (y := (⟨"com/example/clockwrap/clockwrap/store/LongTable", "contains", "(J)Z"⟩ : MethodName)) hown (hw _ (List.mem_of_getElem? (i := 68) rfl)) (hw _ (List.mem_of_getElem? (i := 70) rfl)) (hw _ (List.mem_of_getElem? (i := 6) rfl)) (hw _ (List.mem_of_getElem? (i := 72) rfl)) (hw _ (List.mem_of_getElem? (i := 69) rfl)) (hw _ (List.mem_of_getElem? (i := 71) rfl)) (by decide) Tb39.exa (argsL := [(.long ky2)]) (rest := []) (rm11 l Z a0 hw [] b26 ky2 Wl39 ((((0 + 1) + 1) + 1) + 1) (remM rr (addM ky3 (addM ky2 (addM ky1 eM)))) T39.heap n0 Z39 Tb39 (by decide)) (W := 0) (by decide) (by decide) e41 (g := (mkF m 248 #[.val (.long y1), .second, .val (.long y2), .second, .val (.long z3), .second, .val (.long y4), .second, .val (.int mode), .val (.long (-18014398509481984 : Int64)), .second, .val (.long (-288230376151711744 : Int64)), .second, .val (.long (-1018231460777725123 : Int64)), .second, .val (.long ky1), .second, .val (.long ky2), .second, .val (.long ky3), .second, .val (.long ky4), .second, .val (.int wh), .val (.int (bi (¬ (wh = (0 : Int32))))), .val (.long rr), .second, .val (.ref b26), .val (.int bb41), .unset, .unset, .unset] [(.long ky2), (.ref b26)])) rfl (by rw [hml]; rfl) (lenOf pd_6 rfl) rfl (by show 2 * 0 + _ ≤ _; exact Nat.le_of_eq rfl) (hb hby at_248) (Nat.le_of_ble_eq_true rfl) (Nat.le_of_ble_eq_true rfl)
    obtain ⟨bb43, rfl, N43q, e43, h01_43, hi_43⟩ := hQ43
    have N43 := Fr.app N41 N43q
    refine OFin.go st43 ?_
    show OFin p e below _ (T43.setTop (mkF m 251 #[.val (.long y1), .second, .val (.long y2), .second, .val (.long z3), .second, .val (.long y4), .second, .val (.int mode), .val (.long (-18014398509481984 : Int64)), .second, .val (.long (-288230376151711744 : Int64)), .second, .val (.long (-1018231460777725123 : Int64)), .second, .val (.long ky1), .second, .val (.long ky2), .second, .val (.long ky3), .second, .val (.long ky4), .second, .val (.int wh), .val (.int (bi (¬ (wh = (0 : Int32))))), .val (.long rr), .second, .val (.ref b26), .val (.int bb41), .unset, .unset, .unset] [(.int bb43)]))
    have S44 : ∀ t, Steps p.tables e below (T43.setTop (mkF m 257 #[.val (.long y1), .second, .val (.long y2), .second, .val (.long z3), .second, .val (.long y4), .second, .val (.int mode), .val (.long (-18014398509481984 : Int64)), .second, .val (.long (-288230376151711744 : Int64)), .second, .val (.long (-1018231460777725123 : Int64)), .second, .val (.long ky1), .second, .val (.long ky2), .second, .val (.long ky3), .second, .val (.long ky4), .second, .val (.int wh), .val (.int (bi (¬ (wh = (0 : Int32))))), .val (.long rr), .second, .val (.ref b26), .val (.int bb41), .val (.int bb43), .unset, .unset] [(.long ky3), (.ref b26)])) t → Steps p.tables e below (T43.setTop (mkF m 251 #[.val (.long y1), .second, .val (.long y2), .second, .val (.long z3), .second, .val (.long y4), .second, .val (.int mode), .val (.long (-18014398509481984 : Int64)), .second, .val (.long (-288230376151711744 : Int64)), .second, .val (.long (-1018231460777725123 : Int64)), .second, .val (.long ky1), .second, .val (.long ky2), .second, .val (.long ky3), .second, .val (.long ky4), .second, .val (.int wh), .val (.int (bi (¬ (wh = (0 : Int32))))), .val (.long rr), .second, .val (.ref b26), .val (.int bb41), .unset, .unset, .unset] [(.int bb43)])) t := by
      intro t k
      show Steps p.tables e below (T43.setTop (mkF m 251 #[.val (.long y1), .second, .val (.long y2), .second, .val (.long z3), .second, .val (.long y4), .second, .val (.int mode), .val (.long (-18014398509481984 : Int64)), .second, .val (.long (-288230376151711744 : Int64)), .second, .val (.long (-1018231460777725123 : Int64)), .second, .val (.long ky1), .second, .val (.long ky2), .second, .val (.long ky3), .second, .val (.long ky4), .second, .val (.int wh), .val (.int (bi (¬ (wh = (0 : Int32))))), .val (.long rr), .second, .val (.ref b26), .val (.int bb41), .unset, .unset, .unset] [(.int bb43)])) t
      refine XS.istore X43.here hx rfl (hb hby at_251) rfl (l' := #[.val (.long y1), .second, .val (.long y2), .second, .val (.long z3), .second, .val (.long y4), .second, .val (.int mode), .val (.long (-18014398509481984 : Int64)), .second, .val (.long (-288230376151711744 : Int64)), .second, .val (.long (-1018231460777725123 : Int64)), .second, .val (.long ky1), .second, .val (.long ky2), .second, .val (.long ky3), .second, .val (.long ky4), .second, .val (.int wh), .val (.int (bi (¬ (wh = (0 : Int32))))), .val (.long rr), .second, .val (.ref b26), .val (.int bb41), .val (.int bb43), .unset, .unset]) rfl ?_
      show Steps p.tables e below (T43.setTop (mkF m 253 #[.val (.long y1), .second, .val (.long y2), .second, .val (.long z3), .second, .val (.long y4), .second, .val (.int mode), .val (.long (-18014398509481984 : Int64)), .second, .val (.long (-288230376151711744 : Int64)), .second, .val (.long (-1018231460777725123 : Int64)), .second, .val (.long ky1), .second, .val (.long ky2), .second, .val (.long ky3), .second, .val (.long ky4), .second, .val (.int wh), .val (.int (bi (¬ (wh = (0 : Int32))))), .val (.long rr), .second, .val (.ref b26), .val (.int bb41), .val (.int bb43), .unset, .unset] [])) t
      refine XS.aload X43.here hx rfl (hb hby at_253) rfl rfl ?_
      show Steps p.tables e below (T43.setTop (mkF m 255 #[.val (.long y1), .second, .val (.long y2), .second, .val (.long z3), .second, .val (.long y4), .second, .val (.int mode), .val (.long (-18014398509481984 : Int64)), .second, .val (.long (-288230376151711744 : Int64)), .second, .val (.long (-1018231460777725123 : Int64)), .second, .val (.long ky1), .second, .val (.long ky2), .second, .val (.long ky3), .second, .val (.long ky4), .second, .val (.int wh), .val (.int (bi (¬ (wh = (0 : Int32))))), .val (.long rr), .second, .val (.ref b26), .val (.int bb41), .val (.int bb43), .unset, .unset] [(.ref b26)])) t
      refine XS.lload X43.here hx rfl (hb hby at_255) rfl ?_
      exact k
    refine OFin.go S44 ?_
    obtain ⟨_, T45, Lc45, X45, hQ45, st45⟩ := virtQ X43 hx hZ (y := (⟨"com/example/clockwrap/clockwrap/store/LongTable", "contains", "(J)Z"⟩ : MethodName)) hown (hw _ (List.mem_of_getElem? (i := 68) rfl)) (hw _ (List.mem_of_getElem? (i := 70) rfl)) (hw _ (List.mem_of_getElem? (i := 6) rfl)) (hw _ (List.mem_of_getElem? (i := 72) rfl)) (hw _ (List.mem_of_getElem? (i := 69) rfl)) (hw _ (List.mem_of_getElem? (i := 71) rfl)) (by decide) Tb39.exa (argsL := [(.long ky3)]) (rest := []) (rm11 l Z a0 hw [] b26 ky3 Wl39 ((((0 + 1) + 1) + 1) + 1) (remM rr (addM ky3 (addM ky2 (addM ky1 eM)))) T39.heap n0 Z39 Tb39 (by decide)) (W := 0) (by decide) (by decide) e43 (g := (mkF m 257 #[.val (.long y1), .second, .val (.long y2), .second, .val (.long z3), .second, .val (.long y4), .second, .val (.int mode), .val (.long (-18014398509481984 : Int64)), .second, .val (.long (-288230376151711744 : Int64)), .second, .val (.long (-1018231460777725123 : Int64)), .second, .val (.long ky1), .second, .val (.long ky2), .second, .val (.long ky3), .second, .val (.long ky4), .second, .val (.int wh), .val (.int (bi (¬ (wh = (0 : Int32))))), .val (.long rr), .second, .val (.ref b26), .val (.int bb41), .val (.int bb43), .unset, .unset] [(.long ky3), (.ref b26)])) rfl (by rw [hml]; rfl) (lenOf pd_6 rfl) rfl (by show 2 * 0 + _ ≤ _; exact Nat.le_of_eq rfl) (hb hby at_257) (Nat.le_of_ble_eq_true rfl) (Nat.le_of_ble_eq_true rfl)
    obtain ⟨bb45, rfl, N45q, e45, h01_45, hi_45⟩ := hQ45
    have N45 := Fr.app N43 N45q
    refine OFin.go st45 ?_
    show OFin p e below _ (T45.setTop (mkF m 260 #[.val (.long y1), .second, .val (.long y2), .second, .val (.long z3), .second, .val (.long y4), .second, .val (.int mode), .val (.long (-18014398509481984 : Int64)), .second, .val (.long (-288230376151711744 : Int64)), .second, .val (.long (-1018231460777725123 : Int64)), .second, .val (.long ky1), .second, .val (.long ky2), .second, .val (.long ky3), .second, .val (.long ky4), .second, .val (.int wh), .val (.int (bi (¬ (wh = (0 : Int32))))), .val (.long rr), .second, .val (.ref b26), .val (.int bb41), .val (.int bb43), .unset, .unset] [(.int bb45)]))
    have S46 : ∀ t, Steps p.tables e below (T45.setTop (mkF m 266 #[.val (.long y1), .second, .val (.long y2), .second, .val (.long z3), .second, .val (.long y4), .second, .val (.int mode), .val (.long (-18014398509481984 : Int64)), .second, .val (.long (-288230376151711744 : Int64)), .second, .val (.long (-1018231460777725123 : Int64)), .second, .val (.long ky1), .second, .val (.long ky2), .second, .val (.long ky3), .second, .val (.long ky4), .second, .val (.int wh), .val (.int (bi (¬ (wh = (0 : Int32))))), .val (.long rr), .second, .val (.ref b26), .val (.int bb41), .val (.int bb43), .val (.int bb45), .unset] [(.long ky4), (.ref b26)])) t → Steps p.tables e below (T45.setTop (mkF m 260 #[.val (.long y1), .second, .val (.long y2), .second, .val (.long z3), .second, .val (.long y4), .second, .val (.int mode), .val (.long (-18014398509481984 : Int64)), .second, .val (.long (-288230376151711744 : Int64)), .second, .val (.long (-1018231460777725123 : Int64)), .second, .val (.long ky1), .second, .val (.long ky2), .second, .val (.long ky3), .second, .val (.long ky4), .second, .val (.int wh), .val (.int (bi (¬ (wh = (0 : Int32))))), .val (.long rr), .second, .val (.ref b26), .val (.int bb41), .val (.int bb43), .unset, .unset] [(.int bb45)])) t := by
      intro t k
      show Steps p.tables e below (T45.setTop (mkF m 260 #[.val (.long y1), .second, .val (.long y2), .second, .val (.long z3), .second, .val (.long y4), .second, .val (.int mode), .val (.long (-18014398509481984 : Int64)), .second, .val (.long (-288230376151711744 : Int64)), .second, .val (.long (-1018231460777725123 : Int64)), .second, .val (.long ky1), .second, .val (.long ky2), .second, .val (.long ky3), .second, .val (.long ky4), .second, .val (.int wh), .val (.int (bi (¬ (wh = (0 : Int32))))), .val (.long rr), .second, .val (.ref b26), .val (.int bb41), .val (.int bb43), .unset, .unset] [(.int bb45)])) t
      refine XS.istore X45.here hx rfl (hb hby at_260) rfl (l' := #[.val (.long y1), .second, .val (.long y2), .second, .val (.long z3), .second, .val (.long y4), .second, .val (.int mode), .val (.long (-18014398509481984 : Int64)), .second, .val (.long (-288230376151711744 : Int64)), .second, .val (.long (-1018231460777725123 : Int64)), .second, .val (.long ky1), .second, .val (.long ky2), .second, .val (.long ky3), .second, .val (.long ky4), .second, .val (.int wh), .val (.int (bi (¬ (wh = (0 : Int32))))), .val (.long rr), .second, .val (.ref b26), .val (.int bb41), .val (.int bb43), .val (.int bb45), .unset]) rfl ?_
      show Steps p.tables e below (T45.setTop (mkF m 262 #[.val (.long y1), .second, .val (.long y2), .second, .val (.long z3), .second, .val (.long y4), .second, .val (.int mode), .val (.long (-18014398509481984 : Int64)), .second, .val (.long (-288230376151711744 : Int64)), .second, .val (.long (-1018231460777725123 : Int64)), .second, .val (.long ky1), .second, .val (.long ky2), .second, .val (.long ky3), .second, .val (.long ky4), .second, .val (.int wh), .val (.int (bi (¬ (wh = (0 : Int32))))), .val (.long rr), .second, .val (.ref b26), .val (.int bb41), .val (.int bb43), .val (.int bb45), .unset] [])) t
      refine XS.aload X45.here hx rfl (hb hby at_262) rfl rfl ?_
      show Steps p.tables e below (T45.setTop (mkF m 264 #[.val (.long y1), .second, .val (.long y2), .second, .val (.long z3), .second, .val (.long y4), .second, .val (.int mode), .val (.long (-18014398509481984 : Int64)), .second, .val (.long (-288230376151711744 : Int64)), .second, .val (.long (-1018231460777725123 : Int64)), .second, .val (.long ky1), .second, .val (.long ky2), .second, .val (.long ky3), .second, .val (.long ky4), .second, .val (.int wh), .val (.int (bi (¬ (wh = (0 : Int32))))), .val (.long rr), .second, .val (.ref b26), .val (.int bb41), .val (.int bb43), .val (.int bb45), .unset] [(.ref b26)])) t
      refine XS.lload X45.here hx rfl (hb hby at_264) rfl ?_
      exact k
    refine OFin.go S46 ?_
    obtain ⟨_, T47, Lc47, X47, hQ47, st47⟩ := virtQ X45 hx hZ (y := (⟨"com/example/clockwrap/clockwrap/store/LongTable", "contains", "(J)Z"⟩ : MethodName)) hown (hw _ (List.mem_of_getElem? (i := 68) rfl)) (hw _ (List.mem_of_getElem? (i := 70) rfl)) (hw _ (List.mem_of_getElem? (i := 6) rfl)) (hw _ (List.mem_of_getElem? (i := 72) rfl)) (hw _ (List.mem_of_getElem? (i := 69) rfl)) (hw _ (List.mem_of_getElem? (i := 71) rfl)) (by decide) Tb39.exa (argsL := [(.long ky4)]) (rest := []) (rm11 l Z a0 hw [] b26 ky4 Wl39 ((((0 + 1) + 1) + 1) + 1) (remM rr (addM ky3 (addM ky2 (addM ky1 eM)))) T39.heap n0 Z39 Tb39 (by decide)) (W := 0) (by decide) (by decide) e45 (g := (mkF m 266 #[.val (.long y1), .second, .val (.long y2), .second, .val (.long z3), .second, .val (.long y4), .second, .val (.int mode), .val (.long (-18014398509481984 : Int64)), .second, .val (.long (-288230376151711744 : Int64)), .second, .val (.long (-1018231460777725123 : Int64)), .second, .val (.long ky1), .second, .val (.long ky2), .second, .val (.long ky3), .second, .val (.long ky4), .second, .val (.int wh), .val (.int (bi (¬ (wh = (0 : Int32))))), .val (.long rr), .second, .val (.ref b26), .val (.int bb41), .val (.int bb43), .val (.int bb45), .unset] [(.long ky4), (.ref b26)])) rfl (by rw [hml]; rfl) (lenOf pd_6 rfl) rfl (by show 2 * 0 + _ ≤ _; exact Nat.le_of_eq rfl) (hb hby at_266) (Nat.le_of_ble_eq_true rfl) (Nat.le_of_ble_eq_true rfl)
    obtain ⟨bb47, rfl, N47q, e47, h01_47, hi_47⟩ := hQ47
    have N47 := Fr.app N45 N47q
    refine OFin.go st47 ?_
    show OFin p e below _ (T47.setTop (mkF m 269 #[.val (.long y1), .second, .val (.long y2), .second, .val (.long z3), .second, .val (.long y4), .second, .val (.int mode), .val (.long (-18014398509481984 : Int64)), .second, .val (.long (-288230376151711744 : Int64)), .second, .val (.long (-1018231460777725123 : Int64)), .second, .val (.long ky1), .second, .val (.long ky2), .second, .val (.long ky3), .second, .val (.long ky4), .second, .val (.int wh), .val (.int (bi (¬ (wh = (0 : Int32))))), .val (.long rr), .second, .val (.ref b26), .val (.int bb41), .val (.int bb43), .val (.int bb45), .unset] [(.int bb47)]))
    have S48 : ∀ t, Steps p.tables e below (T47.setTop (mkF m 285 #[.val (.long y1), .second, .val (.long y2), .second, .val (.long z3), .second, .val (.long y4), .second, .val (.int mode), .val (.long (-18014398509481984 : Int64)), .second, .val (.long (-288230376151711744 : Int64)), .second, .val (.long (-1018231460777725123 : Int64)), .second, .val (.long ky1), .second, .val (.long ky2), .second, .val (.long ky3), .second, .val (.long ky4), .second, .val (.int wh), .val (.int (bi (¬ (wh = (0 : Int32))))), .val (.long rr), .second, .val (.ref b26), .val (.int bb41), .val (.int bb43), .val (.int bb45), .val (.int bb47)] [(.long rr), (.int (bi (¬ (wh = (0 : Int32))))), (.long ky3), (.long ky2), (.long ky1), (.long ky1), (.int bb41)])) t → Steps p.tables e below (T47.setTop (mkF m 269 #[.val (.long y1), .second, .val (.long y2), .second, .val (.long z3), .second, .val (.long y4), .second, .val (.int mode), .val (.long (-18014398509481984 : Int64)), .second, .val (.long (-288230376151711744 : Int64)), .second, .val (.long (-1018231460777725123 : Int64)), .second, .val (.long ky1), .second, .val (.long ky2), .second, .val (.long ky3), .second, .val (.long ky4), .second, .val (.int wh), .val (.int (bi (¬ (wh = (0 : Int32))))), .val (.long rr), .second, .val (.ref b26), .val (.int bb41), .val (.int bb43), .val (.int bb45), .unset] [(.int bb47)])) t := by
      intro t k
      show Steps p.tables e below (T47.setTop (mkF m 269 #[.val (.long y1), .second, .val (.long y2), .second, .val (.long z3), .second, .val (.long y4), .second, .val (.int mode), .val (.long (-18014398509481984 : Int64)), .second, .val (.long (-288230376151711744 : Int64)), .second, .val (.long (-1018231460777725123 : Int64)), .second, .val (.long ky1), .second, .val (.long ky2), .second, .val (.long ky3), .second, .val (.long ky4), .second, .val (.int wh), .val (.int (bi (¬ (wh = (0 : Int32))))), .val (.long rr), .second, .val (.ref b26), .val (.int bb41), .val (.int bb43), .val (.int bb45), .unset] [(.int bb47)])) t
      refine XS.istore X47.here hx rfl (hb hby at_269) rfl (l' := #[.val (.long y1), .second, .val (.long y2), .second, .val (.long z3), .second, .val (.long y4), .second, .val (.int mode), .val (.long (-18014398509481984 : Int64)), .second, .val (.long (-288230376151711744 : Int64)), .second, .val (.long (-1018231460777725123 : Int64)), .second, .val (.long ky1), .second, .val (.long ky2), .second, .val (.long ky3), .second, .val (.long ky4), .second, .val (.int wh), .val (.int (bi (¬ (wh = (0 : Int32))))), .val (.long rr), .second, .val (.ref b26), .val (.int bb41), .val (.int bb43), .val (.int bb45), .val (.int bb47)]) rfl ?_
      show Steps p.tables e below (T47.setTop (mkF m 271 #[.val (.long y1), .second, .val (.long y2), .second, .val (.long z3), .second, .val (.long y4), .second, .val (.int mode), .val (.long (-18014398509481984 : Int64)), .second, .val (.long (-288230376151711744 : Int64)), .second, .val (.long (-1018231460777725123 : Int64)), .second, .val (.long ky1), .second, .val (.long ky2), .second, .val (.long ky3), .second, .val (.long ky4), .second, .val (.int wh), .val (.int (bi (¬ (wh = (0 : Int32))))), .val (.long rr), .second, .val (.ref b26), .val (.int bb41), .val (.int bb43), .val (.int bb45), .val (.int bb47)] [])) t
      refine XS.iload X47.here hx rfl (hb hby at_271) rfl ?_
      show Steps p.tables e below (T47.setTop (mkF m 273 #[.val (.long y1), .second, .val (.long y2), .second, .val (.long z3), .second, .val (.long y4), .second, .val (.int mode), .val (.long (-18014398509481984 : Int64)), .second, .val (.long (-288230376151711744 : Int64)), .second, .val (.long (-1018231460777725123 : Int64)), .second, .val (.long ky1), .second, .val (.long ky2), .second, .val (.long ky3), .second, .val (.long ky4), .second, .val (.int wh), .val (.int (bi (¬ (wh = (0 : Int32))))), .val (.long rr), .second, .val (.ref b26), .val (.int bb41), .val (.int bb43), .val (.int bb45), .val (.int bb47)] [(.int bb41)])) t
      refine XS.lload X47.here hx rfl (hb hby at_273) rfl ?_
      show Steps p.tables e below (T47.setTop (mkF m 275 #[.val (.long y1), .second, .val (.long y2), .second, .val (.long z3), .second, .val (.long y4), .second, .val (.int mode), .val (.long (-18014398509481984 : Int64)), .second, .val (.long (-288230376151711744 : Int64)), .second, .val (.long (-1018231460777725123 : Int64)), .second, .val (.long ky1), .second, .val (.long ky2), .second, .val (.long ky3), .second, .val (.long ky4), .second, .val (.int wh), .val (.int (bi (¬ (wh = (0 : Int32))))), .val (.long rr), .second, .val (.ref b26), .val (.int bb41), .val (.int bb43), .val (.int bb45), .val (.int bb47)] [(.long ky1), (.int bb41)])) t
      refine XS.lload X47.here hx rfl (hb hby at_275) rfl ?_
      show Steps p.tables e below (T47.setTop (mkF m 277 #[.val (.long y1), .second, .val (.long y2), .second, .val (.long z3), .second, .val (.long y4), .second, .val (.int mode), .val (.long (-18014398509481984 : Int64)), .second, .val (.long (-288230376151711744 : Int64)), .second, .val (.long (-1018231460777725123 : Int64)), .second, .val (.long ky1), .second, .val (.long ky2), .second, .val (.long ky3), .second, .val (.long ky4), .second, .val (.int wh), .val (.int (bi (¬ (wh = (0 : Int32))))), .val (.long rr), .second, .val (.ref b26), .val (.int bb41), .val (.int bb43), .val (.int bb45), .val (.int bb47)] [(.long ky1), (.long ky1), (.int bb41)])) t
      refine XS.lload X47.here hx rfl (hb hby at_277) rfl ?_
      show Steps p.tables e below (T47.setTop (mkF m 279 #[.val (.long y1), .second, .val (.long y2), .second, .val (.long z3), .second, .val (.long y4), .second, .val (.int mode), .val (.long (-18014398509481984 : Int64)), .second, .val (.long (-288230376151711744 : Int64)), .second, .val (.long (-1018231460777725123 : Int64)), .second, .val (.long ky1), .second, .val (.long ky2), .second, .val (.long ky3), .second, .val (.long ky4), .second, .val (.int wh), .val (.int (bi (¬ (wh = (0 : Int32))))), .val (.long rr), .second, .val (.ref b26), .val (.int bb41), .val (.int bb43), .val (.int bb45), .val (.int bb47)] [(.long ky2), (.long ky1), (.long ky1), (.int bb41)])) t
      refine XS.lload X47.here hx rfl (hb hby at_279) rfl ?_
      show Steps p.tables e below (T47.setTop (mkF m 281 #[.val (.long y1), .second, .val (.long y2), .second, .val (.long z3), .second, .val (.long y4), .second, .val (.int mode), .val (.long (-18014398509481984 : Int64)), .second, .val (.long (-288230376151711744 : Int64)), .second, .val (.long (-1018231460777725123 : Int64)), .second, .val (.long ky1), .second, .val (.long ky2), .second, .val (.long ky3), .second, .val (.long ky4), .second, .val (.int wh), .val (.int (bi (¬ (wh = (0 : Int32))))), .val (.long rr), .second, .val (.ref b26), .val (.int bb41), .val (.int bb43), .val (.int bb45), .val (.int bb47)] [(.long ky3), (.long ky2), (.long ky1), (.long ky1), (.int bb41)])) t
      refine XS.iload X47.here hx rfl (hb hby at_281) rfl ?_
      show Steps p.tables e below (T47.setTop (mkF m 283 #[.val (.long y1), .second, .val (.long y2), .second, .val (.long z3), .second, .val (.long y4), .second, .val (.int mode), .val (.long (-18014398509481984 : Int64)), .second, .val (.long (-288230376151711744 : Int64)), .second, .val (.long (-1018231460777725123 : Int64)), .second, .val (.long ky1), .second, .val (.long ky2), .second, .val (.long ky3), .second, .val (.long ky4), .second, .val (.int wh), .val (.int (bi (¬ (wh = (0 : Int32))))), .val (.long rr), .second, .val (.ref b26), .val (.int bb41), .val (.int bb43), .val (.int bb45), .val (.int bb47)] [(.int (bi (¬ (wh = (0 : Int32))))), (.long ky3), (.long ky2), (.long ky1), (.long ky1), (.int bb41)])) t
      refine XS.lload X47.here hx rfl (hb hby at_283) rfl ?_
      exact k
    refine OFin.go S48 ?_
    obtain ⟨_, T49, Lc49, X49, hQ49, st49⟩ := callQ X47 hx hZ (y := (⟨"com/example/clockwrap/clockwrap/store/LongTableContainsPinLaw", "model", "(JJJJZJ)Z"⟩ : MethodName)) hown (hw _ (List.mem_of_getElem? (i := 78) rfl)) (hw _ (List.mem_of_getElem? (i := 79) rfl)) (hw _ (List.mem_of_getElem? (i := 80) rfl)) (hw _ (List.mem_of_getElem? (i := 81) rfl)) (by decide) (argsL := [(.long ky1), (.long ky1), (.long ky2), (.long ky3), (.int (bi (¬ (wh = (0 : Int32))))), (.long rr)]) (rest := [(.int bb41)]) (rm13 l Z a0 hw [] ky1 ky1 ky2 ky3 (bi (¬ (wh = (0 : Int32)))) rr T39.heap n0 Z39) (W := 1) (by decide) (by decide) e47 (g := (mkF m 285 #[.val (.long y1), .second, .val (.long y2), .second, .val (.long z3), .second, .val (.long y4), .second, .val (.int mode), .val (.long (-18014398509481984 : Int64)), .second, .val (.long (-288230376151711744 : Int64)), .second, .val (.long (-1018231460777725123 : Int64)), .second, .val (.long ky1), .second, .val (.long ky2), .second, .val (.long ky3), .second, .val (.long ky4), .second, .val (.int wh), .val (.int (bi (¬ (wh = (0 : Int32))))), .val (.long rr), .second, .val (.ref b26), .val (.int bb41), .val (.int bb43), .val (.int bb45), .val (.int bb47)] [(.long rr), (.int (bi (¬ (wh = (0 : Int32))))), (.long ky3), (.long ky2), (.long ky1), (.long ky1), (.int bb41)])) rfl (by rw [hml]; rfl) (lenOf pd_7 rfl) rfl (by show 2 * 0 + _ ≤ _; exact Nat.le_of_eq rfl) (hb hby at_285) (Nat.le_of_ble_eq_true rfl) (Nat.le_of_ble_eq_true rfl)
    obtain ⟨rfl, N49q, e49⟩ := hQ49
    have N49 := Fr.app N47 N49q
    refine OFin.go st49 ?_
    show OFin p e below _ (T49.setTop (mkF m 288 #[.val (.long y1), .second, .val (.long y2), .second, .val (.long z3), .second, .val (.long y4), .second, .val (.int mode), .val (.long (-18014398509481984 : Int64)), .second, .val (.long (-288230376151711744 : Int64)), .second, .val (.long (-1018231460777725123 : Int64)), .second, .val (.long ky1), .second, .val (.long ky2), .second, .val (.long ky3), .second, .val (.long ky4), .second, .val (.int wh), .val (.int (bi (¬ (wh = (0 : Int32))))), .val (.long rr), .second, .val (.ref b26), .val (.int bb41), .val (.int bb43), .val (.int bb45), .val (.int bb47)] [(.int (modelF ky1 ky1 ky2 ky3 (bi (¬ (wh = (0 : Int32)))) rr)), (.int bb41)]))
    have S50 : ∀ t, Steps p.tables e below (T49.setTop (mkF m 291 #[.val (.long y1), .second, .val (.long y2), .second, .val (.long z3), .second, .val (.long y4), .second, .val (.int mode), .val (.long (-18014398509481984 : Int64)), .second, .val (.long (-288230376151711744 : Int64)), .second, .val (.long (-1018231460777725123 : Int64)), .second, .val (.long ky1), .second, .val (.long ky2), .second, .val (.long ky3), .second, .val (.long ky4), .second, .val (.int wh), .val (.int (bi (¬ (wh = (0 : Int32))))), .val (.long rr), .second, .val (.ref b26), .val (.int bb41), .val (.int bb43), .val (.int bb45), .val (.int bb47)] [])) t → Steps p.tables e below (T49.setTop (mkF m 288 #[.val (.long y1), .second, .val (.long y2), .second, .val (.long z3), .second, .val (.long y4), .second, .val (.int mode), .val (.long (-18014398509481984 : Int64)), .second, .val (.long (-288230376151711744 : Int64)), .second, .val (.long (-1018231460777725123 : Int64)), .second, .val (.long ky1), .second, .val (.long ky2), .second, .val (.long ky3), .second, .val (.long ky4), .second, .val (.int wh), .val (.int (bi (¬ (wh = (0 : Int32))))), .val (.long rr), .second, .val (.ref b26), .val (.int bb41), .val (.int bb43), .val (.int bb45), .val (.int bb47)] [(.int (modelF ky1 ky1 ky2 ky3 (bi (¬ (wh = (0 : Int32)))) rr)), (.int bb41)])) t := by
      intro t k
      show Steps p.tables e below (T49.setTop (mkF m 288 #[.val (.long y1), .second, .val (.long y2), .second, .val (.long z3), .second, .val (.long y4), .second, .val (.int mode), .val (.long (-18014398509481984 : Int64)), .second, .val (.long (-288230376151711744 : Int64)), .second, .val (.long (-1018231460777725123 : Int64)), .second, .val (.long ky1), .second, .val (.long ky2), .second, .val (.long ky3), .second, .val (.long ky4), .second, .val (.int wh), .val (.int (bi (¬ (wh = (0 : Int32))))), .val (.long rr), .second, .val (.ref b26), .val (.int bb41), .val (.int bb43), .val (.int bb45), .val (.int bb47)] [(.int (modelF ky1 ky1 ky2 ky3 (bi (¬ (wh = (0 : Int32)))) rr)), (.int bb41)])) t
      refine XS.icmpNo X49.here hx rfl (hb hby at_288) rfl (teq (own_model _ _ _ _ _ _ h01_41 (own_fin1 (fun q => bi0.mp q h36) hi_41))).2 ?_
      exact k
    refine OFin.go S50 ?_
    have S51 : ∀ t, Steps p.tables e below (T49.setTop (mkF m 305 #[.val (.long y1), .second, .val (.long y2), .second, .val (.long z3), .second, .val (.long y4), .second, .val (.int mode), .val (.long (-18014398509481984 : Int64)), .second, .val (.long (-288230376151711744 : Int64)), .second, .val (.long (-1018231460777725123 : Int64)), .second, .val (.long ky1), .second, .val (.long ky2), .second, .val (.long ky3), .second, .val (.long ky4), .second, .val (.int wh), .val (.int (bi (¬ (wh = (0 : Int32))))), .val (.long rr), .second, .val (.ref b26), .val (.int bb41), .val (.int bb43), .val (.int bb45), .val (.int bb47)] [(.long rr), (.int (bi (¬ (wh = (0 : Int32))))), (.long ky3), (.long ky2), (.long ky1), (.long ky2), (.int bb43)])) t → Steps p.tables e below (T49.setTop (mkF m 291 #[.val (.long y1), .second, .val (.long y2), .second, .val (.long z3), .second, .val (.long y4), .second, .val (.int mode), .val (.long (-18014398509481984 : Int64)), .second, .val (.long (-288230376151711744 : Int64)), .second, .val (.long (-1018231460777725123 : Int64)), .second, .val (.long ky1), .second, .val (.long ky2), .second, .val (.long ky3), .second, .val (.long ky4), .second, .val (.int wh), .val (.int (bi (¬ (wh = (0 : Int32))))), .val (.long rr), .second, .val (.ref b26), .val (.int bb41), .val (.int bb43), .val (.int bb45), .val (.int bb47)] [])) t := by
      intro t k
      show Steps p.tables e below (T49.setTop (mkF m 291 #[.val (.long y1), .second, .val (.long y2), .second, .val (.long z3), .second, .val (.long y4), .second, .val (.int mode), .val (.long (-18014398509481984 : Int64)), .second, .val (.long (-288230376151711744 : Int64)), .second, .val (.long (-1018231460777725123 : Int64)), .second, .val (.long ky1), .second, .val (.long ky2), .second, .val (.long ky3), .second, .val (.long ky4), .second, .val (.int wh), .val (.int (bi (¬ (wh = (0 : Int32))))), .val (.long rr), .second, .val (.ref b26), .val (.int bb41), .val (.int bb43), .val (.int bb45), .val (.int bb47)] [])) t
      refine XS.iload X49.here hx rfl (hb hby at_291) rfl ?_
      show Steps p.tables e below (T49.setTop (mkF m 293 #[.val (.long y1), .second, .val (.long y2), .second, .val (.long z3), .second, .val (.long y4), .second, .val (.int mode), .val (.long (-18014398509481984 : Int64)), .second, .val (.long (-288230376151711744 : Int64)), .second, .val (.long (-1018231460777725123 : Int64)), .second, .val (.long ky1), .second, .val (.long ky2), .second, .val (.long ky3), .second, .val (.long ky4), .second, .val (.int wh), .val (.int (bi (¬ (wh = (0 : Int32))))), .val (.long rr), .second, .val (.ref b26), .val (.int bb41), .val (.int bb43), .val (.int bb45), .val (.int bb47)] [(.int bb43)])) t
      refine XS.lload X49.here hx rfl (hb hby at_293) rfl ?_
      show Steps p.tables e below (T49.setTop (mkF m 295 #[.val (.long y1), .second, .val (.long y2), .second, .val (.long z3), .second, .val (.long y4), .second, .val (.int mode), .val (.long (-18014398509481984 : Int64)), .second, .val (.long (-288230376151711744 : Int64)), .second, .val (.long (-1018231460777725123 : Int64)), .second, .val (.long ky1), .second, .val (.long ky2), .second, .val (.long ky3), .second, .val (.long ky4), .second, .val (.int wh), .val (.int (bi (¬ (wh = (0 : Int32))))), .val (.long rr), .second, .val (.ref b26), .val (.int bb41), .val (.int bb43), .val (.int bb45), .val (.int bb47)] [(.long ky2), (.int bb43)])) t
      refine XS.lload X49.here hx rfl (hb hby at_295) rfl ?_
      show Steps p.tables e below (T49.setTop (mkF m 297 #[.val (.long y1), .second, .val (.long y2), .second, .val (.long z3), .second, .val (.long y4), .second, .val (.int mode), .val (.long (-18014398509481984 : Int64)), .second, .val (.long (-288230376151711744 : Int64)), .second, .val (.long (-1018231460777725123 : Int64)), .second, .val (.long ky1), .second, .val (.long ky2), .second, .val (.long ky3), .second, .val (.long ky4), .second, .val (.int wh), .val (.int (bi (¬ (wh = (0 : Int32))))), .val (.long rr), .second, .val (.ref b26), .val (.int bb41), .val (.int bb43), .val (.int bb45), .val (.int bb47)] [(.long ky1), (.long ky2), (.int bb43)])) t
      refine XS.lload X49.here hx rfl (hb hby at_297) rfl ?_
      show Steps p.tables e below (T49.setTop (mkF m 299 #[.val (.long y1), .second, .val (.long y2), .second, .val (.long z3), .second, .val (.long y4), .second, .val (.int mode), .val (.long (-18014398509481984 : Int64)), .second, .val (.long (-288230376151711744 : Int64)), .second, .val (.long (-1018231460777725123 : Int64)), .second, .val (.long ky1), .second, .val (.long ky2), .second, .val (.long ky3), .second, .val (.long ky4), .second, .val (.int wh), .val (.int (bi (¬ (wh = (0 : Int32))))), .val (.long rr), .second, .val (.ref b26), .val (.int bb41), .val (.int bb43), .val (.int bb45), .val (.int bb47)] [(.long ky2), (.long ky1), (.long ky2), (.int bb43)])) t
      refine XS.lload X49.here hx rfl (hb hby at_299) rfl ?_
      show Steps p.tables e below (T49.setTop (mkF m 301 #[.val (.long y1), .second, .val (.long y2), .second, .val (.long z3), .second, .val (.long y4), .second, .val (.int mode), .val (.long (-18014398509481984 : Int64)), .second, .val (.long (-288230376151711744 : Int64)), .second, .val (.long (-1018231460777725123 : Int64)), .second, .val (.long ky1), .second, .val (.long ky2), .second, .val (.long ky3), .second, .val (.long ky4), .second, .val (.int wh), .val (.int (bi (¬ (wh = (0 : Int32))))), .val (.long rr), .second, .val (.ref b26), .val (.int bb41), .val (.int bb43), .val (.int bb45), .val (.int bb47)] [(.long ky3), (.long ky2), (.long ky1), (.long ky2), (.int bb43)])) t
      refine XS.iload X49.here hx rfl (hb hby at_301) rfl ?_
      show Steps p.tables e below (T49.setTop (mkF m 303 #[.val (.long y1), .second, .val (.long y2), .second, .val (.long z3), .second, .val (.long y4), .second, .val (.int mode), .val (.long (-18014398509481984 : Int64)), .second, .val (.long (-288230376151711744 : Int64)), .second, .val (.long (-1018231460777725123 : Int64)), .second, .val (.long ky1), .second, .val (.long ky2), .second, .val (.long ky3), .second, .val (.long ky4), .second, .val (.int wh), .val (.int (bi (¬ (wh = (0 : Int32))))), .val (.long rr), .second, .val (.ref b26), .val (.int bb41), .val (.int bb43), .val (.int bb45), .val (.int bb47)] [(.int (bi (¬ (wh = (0 : Int32))))), (.long ky3), (.long ky2), (.long ky1), (.long ky2), (.int bb43)])) t
      refine XS.lload X49.here hx rfl (hb hby at_303) rfl ?_
      exact k
    refine OFin.go S51 ?_
    obtain ⟨_, T52, Lc52, X52, hQ52, st52⟩ := callQ X49 hx hZ (y := (⟨"com/example/clockwrap/clockwrap/store/LongTableContainsPinLaw", "model", "(JJJJZJ)Z"⟩ : MethodName)) hown (hw _ (List.mem_of_getElem? (i := 78) rfl)) (hw _ (List.mem_of_getElem? (i := 79) rfl)) (hw _ (List.mem_of_getElem? (i := 80) rfl)) (hw _ (List.mem_of_getElem? (i := 81) rfl)) (by decide) (argsL := [(.long ky2), (.long ky1), (.long ky2), (.long ky3), (.int (bi (¬ (wh = (0 : Int32))))), (.long rr)]) (rest := [(.int bb43)]) (rm13 l Z a0 hw [] ky2 ky1 ky2 ky3 (bi (¬ (wh = (0 : Int32)))) rr T39.heap n0 Z39) (W := 1) (by decide) (by decide) e49 (g := (mkF m 305 #[.val (.long y1), .second, .val (.long y2), .second, .val (.long z3), .second, .val (.long y4), .second, .val (.int mode), .val (.long (-18014398509481984 : Int64)), .second, .val (.long (-288230376151711744 : Int64)), .second, .val (.long (-1018231460777725123 : Int64)), .second, .val (.long ky1), .second, .val (.long ky2), .second, .val (.long ky3), .second, .val (.long ky4), .second, .val (.int wh), .val (.int (bi (¬ (wh = (0 : Int32))))), .val (.long rr), .second, .val (.ref b26), .val (.int bb41), .val (.int bb43), .val (.int bb45), .val (.int bb47)] [(.long rr), (.int (bi (¬ (wh = (0 : Int32))))), (.long ky3), (.long ky2), (.long ky1), (.long ky2), (.int bb43)])) rfl (by rw [hml]; rfl) (lenOf pd_7 rfl) rfl (by show 2 * 0 + _ ≤ _; exact Nat.le_of_eq rfl) (hb hby at_305) (Nat.le_of_ble_eq_true rfl) (Nat.le_of_ble_eq_true rfl)
    obtain ⟨rfl, N52q, e52⟩ := hQ52
    have N52 := Fr.app N49 N52q
    refine OFin.go st52 ?_
    show OFin p e below _ (T52.setTop (mkF m 308 #[.val (.long y1), .second, .val (.long y2), .second, .val (.long z3), .second, .val (.long y4), .second, .val (.int mode), .val (.long (-18014398509481984 : Int64)), .second, .val (.long (-288230376151711744 : Int64)), .second, .val (.long (-1018231460777725123 : Int64)), .second, .val (.long ky1), .second, .val (.long ky2), .second, .val (.long ky3), .second, .val (.long ky4), .second, .val (.int wh), .val (.int (bi (¬ (wh = (0 : Int32))))), .val (.long rr), .second, .val (.ref b26), .val (.int bb41), .val (.int bb43), .val (.int bb45), .val (.int bb47)] [(.int (modelF ky2 ky1 ky2 ky3 (bi (¬ (wh = (0 : Int32)))) rr)), (.int bb43)]))
    have S53 : ∀ t, Steps p.tables e below (T52.setTop (mkF m 311 #[.val (.long y1), .second, .val (.long y2), .second, .val (.long z3), .second, .val (.long y4), .second, .val (.int mode), .val (.long (-18014398509481984 : Int64)), .second, .val (.long (-288230376151711744 : Int64)), .second, .val (.long (-1018231460777725123 : Int64)), .second, .val (.long ky1), .second, .val (.long ky2), .second, .val (.long ky3), .second, .val (.long ky4), .second, .val (.int wh), .val (.int (bi (¬ (wh = (0 : Int32))))), .val (.long rr), .second, .val (.ref b26), .val (.int bb41), .val (.int bb43), .val (.int bb45), .val (.int bb47)] [])) t → Steps p.tables e below (T52.setTop (mkF m 308 #[.val (.long y1), .second, .val (.long y2), .second, .val (.long z3), .second, .val (.long y4), .second, .val (.int mode), .val (.long (-18014398509481984 : Int64)), .second, .val (.long (-288230376151711744 : Int64)), .second, .val (.long (-1018231460777725123 : Int64)), .second, .val (.long ky1), .second, .val (.long ky2), .second, .val (.long ky3), .second, .val (.long ky4), .second, .val (.int wh), .val (.int (bi (¬ (wh = (0 : Int32))))), .val (.long rr), .second, .val (.ref b26), .val (.int bb41), .val (.int bb43), .val (.int bb45), .val (.int bb47)] [(.int (modelF ky2 ky1 ky2 ky3 (bi (¬ (wh = (0 : Int32)))) rr)), (.int bb43)])) t := by
      intro t k
      show Steps p.tables e below (T52.setTop (mkF m 308 #[.val (.long y1), .second, .val (.long y2), .second, .val (.long z3), .second, .val (.long y4), .second, .val (.int mode), .val (.long (-18014398509481984 : Int64)), .second, .val (.long (-288230376151711744 : Int64)), .second, .val (.long (-1018231460777725123 : Int64)), .second, .val (.long ky1), .second, .val (.long ky2), .second, .val (.long ky3), .second, .val (.long ky4), .second, .val (.int wh), .val (.int (bi (¬ (wh = (0 : Int32))))), .val (.long rr), .second, .val (.ref b26), .val (.int bb41), .val (.int bb43), .val (.int bb45), .val (.int bb47)] [(.int (modelF ky2 ky1 ky2 ky3 (bi (¬ (wh = (0 : Int32)))) rr)), (.int bb43)])) t
      refine XS.icmpNo X52.here hx rfl (hb hby at_308) rfl (teq (own_model _ _ _ _ _ _ h01_43 (own_fin1 (fun q => bi0.mp q h36) hi_43))).2 ?_
      exact k
    refine OFin.go S53 ?_
    have S54 : ∀ t, Steps p.tables e below (T52.setTop (mkF m 325 #[.val (.long y1), .second, .val (.long y2), .second, .val (.long z3), .second, .val (.long y4), .second, .val (.int mode), .val (.long (-18014398509481984 : Int64)), .second, .val (.long (-288230376151711744 : Int64)), .second, .val (.long (-1018231460777725123 : Int64)), .second, .val (.long ky1), .second, .val (.long ky2), .second, .val (.long ky3), .second, .val (.long ky4), .second, .val (.int wh), .val (.int (bi (¬ (wh = (0 : Int32))))), .val (.long rr), .second, .val (.ref b26), .val (.int bb41), .val (.int bb43), .val (.int bb45), .val (.int bb47)] [(.long rr), (.int (bi (¬ (wh = (0 : Int32))))), (.long ky3), (.long ky2), (.long ky1), (.long ky3), (.int bb45)])) t → Steps p.tables e below (T52.setTop (mkF m 311 #[.val (.long y1), .second, .val (.long y2), .second, .val (.long z3), .second, .val (.long y4), .second, .val (.int mode), .val (.long (-18014398509481984 : Int64)), .second, .val (.long (-288230376151711744 : Int64)), .second, .val (.long (-1018231460777725123 : Int64)), .second, .val (.long ky1), .second, .val (.long ky2), .second, .val (.long ky3), .second, .val (.long ky4), .second, .val (.int wh), .val (.int (bi (¬ (wh = (0 : Int32))))), .val (.long rr), .second, .val (.ref b26), .val (.int bb41), .val (.int bb43), .val (.int bb45), .val (.int bb47)] [])) t := by
      intro t k
      show Steps p.tables e below (T52.setTop (mkF m 311 #[.val (.long y1), .second, .val (.long y2), .second, .val (.long z3), .second, .val (.long y4), .second, .val (.int mode), .val (.long (-18014398509481984 : Int64)), .second, .val (.long (-288230376151711744 : Int64)), .second, .val (.long (-1018231460777725123 : Int64)), .second, .val (.long ky1), .second, .val (.long ky2), .second, .val (.long ky3), .second, .val (.long ky4), .second, .val (.int wh), .val (.int (bi (¬ (wh = (0 : Int32))))), .val (.long rr), .second, .val (.ref b26), .val (.int bb41), .val (.int bb43), .val (.int bb45), .val (.int bb47)] [])) t
      refine XS.iload X52.here hx rfl (hb hby at_311) rfl ?_
      show Steps p.tables e below (T52.setTop (mkF m 313 #[.val (.long y1), .second, .val (.long y2), .second, .val (.long z3), .second, .val (.long y4), .second, .val (.int mode), .val (.long (-18014398509481984 : Int64)), .second, .val (.long (-288230376151711744 : Int64)), .second, .val (.long (-1018231460777725123 : Int64)), .second, .val (.long ky1), .second, .val (.long ky2), .second, .val (.long ky3), .second, .val (.long ky4), .second, .val (.int wh), .val (.int (bi (¬ (wh = (0 : Int32))))), .val (.long rr), .second, .val (.ref b26), .val (.int bb41), .val (.int bb43), .val (.int bb45), .val (.int bb47)] [(.int bb45)])) t
      refine XS.lload X52.here hx rfl (hb hby at_313) rfl ?_
      show Steps p.tables e below (T52.setTop (mkF m 315 #[.val (.long y1), .second, .val (.long y2), .second, .val (.long z3), .second, .val (.long y4), .second, .val (.int mode), .val (.long (-18014398509481984 : Int64)), .second, .val (.long (-288230376151711744 : Int64)), .second, .val (.long (-1018231460777725123 : Int64)), .second, .val (.long ky1), .second, .val (.long ky2), .second, .val (.long ky3), .second, .val (.long ky4), .second, .val (.int wh), .val (.int (bi (¬ (wh = (0 : Int32))))), .val (.long rr), .second, .val (.ref b26), .val (.int bb41), .val (.int bb43), .val (.int bb45), .val (.int bb47)] [(.long ky3), (.int bb45)])) t
      refine XS.lload X52.here hx rfl (hb hby at_315) rfl ?_
      show Steps p.tables e below (T52.setTop (mkF m 317 #[.val (.long y1), .second, .val (.long y2), .second, .val (.long z3), .second, .val (.long y4), .second, .val (.int mode), .val (.long (-18014398509481984 : Int64)), .second, .val (.long (-288230376151711744 : Int64)), .second, .val (.long (-1018231460777725123 : Int64)), .second, .val (.long ky1), .second, .val (.long ky2), .second, .val (.long ky3), .second, .val (.long ky4), .second, .val (.int wh), .val (.int (bi (¬ (wh = (0 : Int32))))), .val (.long rr), .second, .val (.ref b26), .val (.int bb41), .val (.int bb43), .val (.int bb45), .val (.int bb47)] [(.long ky1), (.long ky3), (.int bb45)])) t
      refine XS.lload X52.here hx rfl (hb hby at_317) rfl ?_
      show Steps p.tables e below (T52.setTop (mkF m 319 #[.val (.long y1), .second, .val (.long y2), .second, .val (.long z3), .second, .val (.long y4), .second, .val (.int mode), .val (.long (-18014398509481984 : Int64)), .second, .val (.long (-288230376151711744 : Int64)), .second, .val (.long (-1018231460777725123 : Int64)), .second, .val (.long ky1), .second, .val (.long ky2), .second, .val (.long ky3), .second, .val (.long ky4), .second, .val (.int wh), .val (.int (bi (¬ (wh = (0 : Int32))))), .val (.long rr), .second, .val (.ref b26), .val (.int bb41), .val (.int bb43), .val (.int bb45), .val (.int bb47)] [(.long ky2), (.long ky1), (.long ky3), (.int bb45)])) t
      refine XS.lload X52.here hx rfl (hb hby at_319) rfl ?_
      show Steps p.tables e below (T52.setTop (mkF m 321 #[.val (.long y1), .second, .val (.long y2), .second, .val (.long z3), .second, .val (.long y4), .second, .val (.int mode), .val (.long (-18014398509481984 : Int64)), .second, .val (.long (-288230376151711744 : Int64)), .second, .val (.long (-1018231460777725123 : Int64)), .second, .val (.long ky1), .second, .val (.long ky2), .second, .val (.long ky3), .second, .val (.long ky4), .second, .val (.int wh), .val (.int (bi (¬ (wh = (0 : Int32))))), .val (.long rr), .second, .val (.ref b26), .val (.int bb41), .val (.int bb43), .val (.int bb45), .val (.int bb47)] [(.long ky3), (.long ky2), (.long ky1), (.long ky3), (.int bb45)])) t
      refine XS.iload X52.here hx rfl (hb hby at_321) rfl ?_
      show Steps p.tables e below (T52.setTop (mkF m 323 #[.val (.long y1), .second, .val (.long y2), .second, .val (.long z3), .second, .val (.long y4), .second, .val (.int mode), .val (.long (-18014398509481984 : Int64)), .second, .val (.long (-288230376151711744 : Int64)), .second, .val (.long (-1018231460777725123 : Int64)), .second, .val (.long ky1), .second, .val (.long ky2), .second, .val (.long ky3), .second, .val (.long ky4), .second, .val (.int wh), .val (.int (bi (¬ (wh = (0 : Int32))))), .val (.long rr), .second, .val (.ref b26), .val (.int bb41), .val (.int bb43), .val (.int bb45), .val (.int bb47)] [(.int (bi (¬ (wh = (0 : Int32))))), (.long ky3), (.long ky2), (.long ky1), (.long ky3), (.int bb45)])) t
      refine XS.lload X52.here hx rfl (hb hby at_323) rfl ?_
      exact k
    refine OFin.go S54 ?_
    obtain ⟨_, T55, Lc55, X55, hQ55, st55⟩ := callQ X52 hx hZ (y := (⟨"com/example/clockwrap/clockwrap/store/LongTableContainsPinLaw", "model", "(JJJJZJ)Z"⟩ : MethodName)) hown (hw _ (List.mem_of_getElem? (i := 78) rfl)) (hw _ (List.mem_of_getElem? (i := 79) rfl)) (hw _ (List.mem_of_getElem? (i := 80) rfl)) (hw _ (List.mem_of_getElem? (i := 81) rfl)) (by decide) (argsL := [(.long ky3), (.long ky1), (.long ky2), (.long ky3), (.int (bi (¬ (wh = (0 : Int32))))), (.long rr)]) (rest := [(.int bb45)]) (rm13 l Z a0 hw [] ky3 ky1 ky2 ky3 (bi (¬ (wh = (0 : Int32)))) rr T39.heap n0 Z39) (W := 1) (by decide) (by decide) e52 (g := (mkF m 325 #[.val (.long y1), .second, .val (.long y2), .second, .val (.long z3), .second, .val (.long y4), .second, .val (.int mode), .val (.long (-18014398509481984 : Int64)), .second, .val (.long (-288230376151711744 : Int64)), .second, .val (.long (-1018231460777725123 : Int64)), .second, .val (.long ky1), .second, .val (.long ky2), .second, .val (.long ky3), .second, .val (.long ky4), .second, .val (.int wh), .val (.int (bi (¬ (wh = (0 : Int32))))), .val (.long rr), .second, .val (.ref b26), .val (.int bb41), .val (.int bb43), .val (.int bb45), .val (.int bb47)] [(.long rr), (.int (bi (¬ (wh = (0 : Int32))))), (.long ky3), (.long ky2), (.long ky1), (.long ky3), (.int bb45)])) rfl (by rw [hml]; rfl) (lenOf pd_7 rfl) rfl (by show 2 * 0 + _ ≤ _; exact Nat.le_of_eq rfl) (hb hby at_325) (Nat.le_of_ble_eq_true rfl) (Nat.le_of_ble_eq_true rfl)
    obtain ⟨rfl, N55q, e55⟩ := hQ55
    have N55 := Fr.app N52 N55q
    refine OFin.go st55 ?_
    show OFin p e below _ (T55.setTop (mkF m 328 #[.val (.long y1), .second, .val (.long y2), .second, .val (.long z3), .second, .val (.long y4), .second, .val (.int mode), .val (.long (-18014398509481984 : Int64)), .second, .val (.long (-288230376151711744 : Int64)), .second, .val (.long (-1018231460777725123 : Int64)), .second, .val (.long ky1), .second, .val (.long ky2), .second, .val (.long ky3), .second, .val (.long ky4), .second, .val (.int wh), .val (.int (bi (¬ (wh = (0 : Int32))))), .val (.long rr), .second, .val (.ref b26), .val (.int bb41), .val (.int bb43), .val (.int bb45), .val (.int bb47)] [(.int (modelF ky3 ky1 ky2 ky3 (bi (¬ (wh = (0 : Int32)))) rr)), (.int bb45)]))
    have S56 : ∀ t, Steps p.tables e below (T55.setTop (mkF m 331 #[.val (.long y1), .second, .val (.long y2), .second, .val (.long z3), .second, .val (.long y4), .second, .val (.int mode), .val (.long (-18014398509481984 : Int64)), .second, .val (.long (-288230376151711744 : Int64)), .second, .val (.long (-1018231460777725123 : Int64)), .second, .val (.long ky1), .second, .val (.long ky2), .second, .val (.long ky3), .second, .val (.long ky4), .second, .val (.int wh), .val (.int (bi (¬ (wh = (0 : Int32))))), .val (.long rr), .second, .val (.ref b26), .val (.int bb41), .val (.int bb43), .val (.int bb45), .val (.int bb47)] [])) t → Steps p.tables e below (T55.setTop (mkF m 328 #[.val (.long y1), .second, .val (.long y2), .second, .val (.long z3), .second, .val (.long y4), .second, .val (.int mode), .val (.long (-18014398509481984 : Int64)), .second, .val (.long (-288230376151711744 : Int64)), .second, .val (.long (-1018231460777725123 : Int64)), .second, .val (.long ky1), .second, .val (.long ky2), .second, .val (.long ky3), .second, .val (.long ky4), .second, .val (.int wh), .val (.int (bi (¬ (wh = (0 : Int32))))), .val (.long rr), .second, .val (.ref b26), .val (.int bb41), .val (.int bb43), .val (.int bb45), .val (.int bb47)] [(.int (modelF ky3 ky1 ky2 ky3 (bi (¬ (wh = (0 : Int32)))) rr)), (.int bb45)])) t := by
      intro t k
      show Steps p.tables e below (T55.setTop (mkF m 328 #[.val (.long y1), .second, .val (.long y2), .second, .val (.long z3), .second, .val (.long y4), .second, .val (.int mode), .val (.long (-18014398509481984 : Int64)), .second, .val (.long (-288230376151711744 : Int64)), .second, .val (.long (-1018231460777725123 : Int64)), .second, .val (.long ky1), .second, .val (.long ky2), .second, .val (.long ky3), .second, .val (.long ky4), .second, .val (.int wh), .val (.int (bi (¬ (wh = (0 : Int32))))), .val (.long rr), .second, .val (.ref b26), .val (.int bb41), .val (.int bb43), .val (.int bb45), .val (.int bb47)] [(.int (modelF ky3 ky1 ky2 ky3 (bi (¬ (wh = (0 : Int32)))) rr)), (.int bb45)])) t
      refine XS.icmpNo X55.here hx rfl (hb hby at_328) rfl (teq (own_model _ _ _ _ _ _ h01_45 (own_fin1 (fun q => bi0.mp q h36) hi_45))).2 ?_
      exact k
    refine OFin.go S56 ?_
    have S57 : ∀ t, Steps p.tables e below (T55.setTop (mkF m 345 #[.val (.long y1), .second, .val (.long y2), .second, .val (.long z3), .second, .val (.long y4), .second, .val (.int mode), .val (.long (-18014398509481984 : Int64)), .second, .val (.long (-288230376151711744 : Int64)), .second, .val (.long (-1018231460777725123 : Int64)), .second, .val (.long ky1), .second, .val (.long ky2), .second, .val (.long ky3), .second, .val (.long ky4), .second, .val (.int wh), .val (.int (bi (¬ (wh = (0 : Int32))))), .val (.long rr), .second, .val (.ref b26), .val (.int bb41), .val (.int bb43), .val (.int bb45), .val (.int bb47)] [(.long rr), (.int (bi (¬ (wh = (0 : Int32))))), (.long ky3), (.long ky2), (.long ky1), (.long ky4), (.int bb47)])) t → Steps p.tables e below (T55.setTop (mkF m 331 #[.val (.long y1), .second, .val (.long y2), .second, .val (.long z3), .second, .val (.long y4), .second, .val (.int mode), .val (.long (-18014398509481984 : Int64)), .second, .val (.long (-288230376151711744 : Int64)), .second, .val (.long (-1018231460777725123 : Int64)), .second, .val (.long ky1), .second, .val (.long ky2), .second, .val (.long ky3), .second, .val (.long ky4), .second, .val (.int wh), .val (.int (bi (¬ (wh = (0 : Int32))))), .val (.long rr), .second, .val (.ref b26), .val (.int bb41), .val (.int bb43), .val (.int bb45), .val (.int bb47)] [])) t := by
      intro t k
      show Steps p.tables e below (T55.setTop (mkF m 331 #[.val (.long y1), .second, .val (.long y2), .second, .val (.long z3), .second, .val (.long y4), .second, .val (.int mode), .val (.long (-18014398509481984 : Int64)), .second, .val (.long (-288230376151711744 : Int64)), .second, .val (.long (-1018231460777725123 : Int64)), .second, .val (.long ky1), .second, .val (.long ky2), .second, .val (.long ky3), .second, .val (.long ky4), .second, .val (.int wh), .val (.int (bi (¬ (wh = (0 : Int32))))), .val (.long rr), .second, .val (.ref b26), .val (.int bb41), .val (.int bb43), .val (.int bb45), .val (.int bb47)] [])) t
      refine XS.iload X55.here hx rfl (hb hby at_331) rfl ?_
      show Steps p.tables e below (T55.setTop (mkF m 333 #[.val (.long y1), .second, .val (.long y2), .second, .val (.long z3), .second, .val (.long y4), .second, .val (.int mode), .val (.long (-18014398509481984 : Int64)), .second, .val (.long (-288230376151711744 : Int64)), .second, .val (.long (-1018231460777725123 : Int64)), .second, .val (.long ky1), .second, .val (.long ky2), .second, .val (.long ky3), .second, .val (.long ky4), .second, .val (.int wh), .val (.int (bi (¬ (wh = (0 : Int32))))), .val (.long rr), .second, .val (.ref b26), .val (.int bb41), .val (.int bb43), .val (.int bb45), .val (.int bb47)] [(.int bb47)])) t
      refine XS.lload X55.here hx rfl (hb hby at_333) rfl ?_
      show Steps p.tables e below (T55.setTop (mkF m 335 #[.val (.long y1), .second, .val (.long y2), .second, .val (.long z3), .second, .val (.long y4), .second, .val (.int mode), .val (.long (-18014398509481984 : Int64)), .second, .val (.long (-288230376151711744 : Int64)), .second, .val (.long (-1018231460777725123 : Int64)), .second, .val (.long ky1), .second, .val (.long ky2), .second, .val (.long ky3), .second, .val (.long ky4), .second, .val (.int wh), .val (.int (bi (¬ (wh = (0 : Int32))))), .val (.long rr), .second, .val (.ref b26), .val (.int bb41), .val (.int bb43), .val (.int bb45), .val (.int bb47)] [(.long ky4), (.int bb47)])) t
      refine XS.lload X55.here hx rfl (hb hby at_335) rfl ?_
      show Steps p.tables e below (T55.setTop (mkF m 337 #[.val (.long y1), .second, .val (.long y2), .second, .val (.long z3), .second, .val (.long y4), .second, .val (.int mode), .val (.long (-18014398509481984 : Int64)), .second, .val (.long (-288230376151711744 : Int64)), .second, .val (.long (-1018231460777725123 : Int64)), .second, .val (.long ky1), .second, .val (.long ky2), .second, .val (.long ky3), .second, .val (.long ky4), .second, .val (.int wh), .val (.int (bi (¬ (wh = (0 : Int32))))), .val (.long rr), .second, .val (.ref b26), .val (.int bb41), .val (.int bb43), .val (.int bb45), .val (.int bb47)] [(.long ky1), (.long ky4), (.int bb47)])) t
      refine XS.lload X55.here hx rfl (hb hby at_337) rfl ?_
      show Steps p.tables e below (T55.setTop (mkF m 339 #[.val (.long y1), .second, .val (.long y2), .second, .val (.long z3), .second, .val (.long y4), .second, .val (.int mode), .val (.long (-18014398509481984 : Int64)), .second, .val (.long (-288230376151711744 : Int64)), .second, .val (.long (-1018231460777725123 : Int64)), .second, .val (.long ky1), .second, .val (.long ky2), .second, .val (.long ky3), .second, .val (.long ky4), .second, .val (.int wh), .val (.int (bi (¬ (wh = (0 : Int32))))), .val (.long rr), .second, .val (.ref b26), .val (.int bb41), .val (.int bb43), .val (.int bb45), .val (.int bb47)] [(.long ky2), (.long ky1), (.long ky4), (.int bb47)])) t
      refine XS.lload X55.here hx rfl (hb hby at_339) rfl ?_
      show Steps p.tables e below (T55.setTop (mkF m 341 #[.val (.long y1), .second, .val (.long y2), .second, .val (.long z3), .second, .val (.long y4), .second, .val (.int mode), .val (.long (-18014398509481984 : Int64)), .second, .val (.long (-288230376151711744 : Int64)), .second, .val (.long (-1018231460777725123 : Int64)), .second, .val (.long ky1), .second, .val (.long ky2), .second, .val (.long ky3), .second, .val (.long ky4), .second, .val (.int wh), .val (.int (bi (¬ (wh = (0 : Int32))))), .val (.long rr), .second, .val (.ref b26), .val (.int bb41), .val (.int bb43), .val (.int bb45), .val (.int bb47)] [(.long ky3), (.long ky2), (.long ky1), (.long ky4), (.int bb47)])) t
      refine XS.iload X55.here hx rfl (hb hby at_341) rfl ?_
      show Steps p.tables e below (T55.setTop (mkF m 343 #[.val (.long y1), .second, .val (.long y2), .second, .val (.long z3), .second, .val (.long y4), .second, .val (.int mode), .val (.long (-18014398509481984 : Int64)), .second, .val (.long (-288230376151711744 : Int64)), .second, .val (.long (-1018231460777725123 : Int64)), .second, .val (.long ky1), .second, .val (.long ky2), .second, .val (.long ky3), .second, .val (.long ky4), .second, .val (.int wh), .val (.int (bi (¬ (wh = (0 : Int32))))), .val (.long rr), .second, .val (.ref b26), .val (.int bb41), .val (.int bb43), .val (.int bb45), .val (.int bb47)] [(.int (bi (¬ (wh = (0 : Int32))))), (.long ky3), (.long ky2), (.long ky1), (.long ky4), (.int bb47)])) t
      refine XS.lload X55.here hx rfl (hb hby at_343) rfl ?_
      exact k
    refine OFin.go S57 ?_
    obtain ⟨_, T58, Lc58, X58, hQ58, st58⟩ := callQ X55 hx hZ (y := (⟨"com/example/clockwrap/clockwrap/store/LongTableContainsPinLaw", "model", "(JJJJZJ)Z"⟩ : MethodName)) hown (hw _ (List.mem_of_getElem? (i := 78) rfl)) (hw _ (List.mem_of_getElem? (i := 79) rfl)) (hw _ (List.mem_of_getElem? (i := 80) rfl)) (hw _ (List.mem_of_getElem? (i := 81) rfl)) (by decide) (argsL := [(.long ky4), (.long ky1), (.long ky2), (.long ky3), (.int (bi (¬ (wh = (0 : Int32))))), (.long rr)]) (rest := [(.int bb47)]) (rm13 l Z a0 hw [] ky4 ky1 ky2 ky3 (bi (¬ (wh = (0 : Int32)))) rr T39.heap n0 Z39) (W := 1) (by decide) (by decide) e55 (g := (mkF m 345 #[.val (.long y1), .second, .val (.long y2), .second, .val (.long z3), .second, .val (.long y4), .second, .val (.int mode), .val (.long (-18014398509481984 : Int64)), .second, .val (.long (-288230376151711744 : Int64)), .second, .val (.long (-1018231460777725123 : Int64)), .second, .val (.long ky1), .second, .val (.long ky2), .second, .val (.long ky3), .second, .val (.long ky4), .second, .val (.int wh), .val (.int (bi (¬ (wh = (0 : Int32))))), .val (.long rr), .second, .val (.ref b26), .val (.int bb41), .val (.int bb43), .val (.int bb45), .val (.int bb47)] [(.long rr), (.int (bi (¬ (wh = (0 : Int32))))), (.long ky3), (.long ky2), (.long ky1), (.long ky4), (.int bb47)])) rfl (by rw [hml]; rfl) (lenOf pd_7 rfl) rfl (by show 2 * 0 + _ ≤ _; exact Nat.le_of_eq rfl) (hb hby at_345) (Nat.le_of_ble_eq_true rfl) (Nat.le_of_ble_eq_true rfl)
    obtain ⟨rfl, N58q, e58⟩ := hQ58
    have N58 := Fr.app N55 N58q
    refine OFin.go st58 ?_
    show OFin p e below _ (T58.setTop (mkF m 348 #[.val (.long y1), .second, .val (.long y2), .second, .val (.long z3), .second, .val (.long y4), .second, .val (.int mode), .val (.long (-18014398509481984 : Int64)), .second, .val (.long (-288230376151711744 : Int64)), .second, .val (.long (-1018231460777725123 : Int64)), .second, .val (.long ky1), .second, .val (.long ky2), .second, .val (.long ky3), .second, .val (.long ky4), .second, .val (.int wh), .val (.int (bi (¬ (wh = (0 : Int32))))), .val (.long rr), .second, .val (.ref b26), .val (.int bb41), .val (.int bb43), .val (.int bb45), .val (.int bb47)] [(.int (modelF ky4 ky1 ky2 ky3 (bi (¬ (wh = (0 : Int32)))) rr)), (.int bb47)]))
    have S59 : ∀ t, Steps p.tables e below (T58.setTop (mkF m 351 #[.val (.long y1), .second, .val (.long y2), .second, .val (.long z3), .second, .val (.long y4), .second, .val (.int mode), .val (.long (-18014398509481984 : Int64)), .second, .val (.long (-288230376151711744 : Int64)), .second, .val (.long (-1018231460777725123 : Int64)), .second, .val (.long ky1), .second, .val (.long ky2), .second, .val (.long ky3), .second, .val (.long ky4), .second, .val (.int wh), .val (.int (bi (¬ (wh = (0 : Int32))))), .val (.long rr), .second, .val (.ref b26), .val (.int bb41), .val (.int bb43), .val (.int bb45), .val (.int bb47)] [])) t → Steps p.tables e below (T58.setTop (mkF m 348 #[.val (.long y1), .second, .val (.long y2), .second, .val (.long z3), .second, .val (.long y4), .second, .val (.int mode), .val (.long (-18014398509481984 : Int64)), .second, .val (.long (-288230376151711744 : Int64)), .second, .val (.long (-1018231460777725123 : Int64)), .second, .val (.long ky1), .second, .val (.long ky2), .second, .val (.long ky3), .second, .val (.long ky4), .second, .val (.int wh), .val (.int (bi (¬ (wh = (0 : Int32))))), .val (.long rr), .second, .val (.ref b26), .val (.int bb41), .val (.int bb43), .val (.int bb45), .val (.int bb47)] [(.int (modelF ky4 ky1 ky2 ky3 (bi (¬ (wh = (0 : Int32)))) rr)), (.int bb47)])) t := by
      intro t k
      show Steps p.tables e below (T58.setTop (mkF m 348 #[.val (.long y1), .second, .val (.long y2), .second, .val (.long z3), .second, .val (.long y4), .second, .val (.int mode), .val (.long (-18014398509481984 : Int64)), .second, .val (.long (-288230376151711744 : Int64)), .second, .val (.long (-1018231460777725123 : Int64)), .second, .val (.long ky1), .second, .val (.long ky2), .second, .val (.long ky3), .second, .val (.long ky4), .second, .val (.int wh), .val (.int (bi (¬ (wh = (0 : Int32))))), .val (.long rr), .second, .val (.ref b26), .val (.int bb41), .val (.int bb43), .val (.int bb45), .val (.int bb47)] [(.int (modelF ky4 ky1 ky2 ky3 (bi (¬ (wh = (0 : Int32)))) rr)), (.int bb47)])) t
      refine XS.icmpNo X58.here hx rfl (hb hby at_348) rfl (teq (own_model _ _ _ _ _ _ h01_47 (own_fin1 (fun q => bi0.mp q h36) hi_47))).2 ?_
      exact k
    refine OFin.go S59 ?_
    have S60 : ∀ t, Steps p.tables e below (T58.setTop (mkF m 356 #[.val (.long y1), .second, .val (.long y2), .second, .val (.long z3), .second, .val (.long y4), .second, .val (.int mode), .val (.long (-18014398509481984 : Int64)), .second, .val (.long (-288230376151711744 : Int64)), .second, .val (.long (-1018231460777725123 : Int64)), .second, .val (.long ky1), .second, .val (.long ky2), .second, .val (.long ky3), .second, .val (.long ky4), .second, .val (.int wh), .val (.int (bi (¬ (wh = (0 : Int32))))), .val (.long rr), .second, .val (.ref b26), .val (.int bb41), .val (.int bb43), .val (.int bb45), .val (.int bb47)] [(.int (1 : Int32))])) t → Steps p.tables e below (T58.setTop (mkF m 351 #[.val (.long y1), .second, .val (.long y2), .second, .val (.long z3), .second, .val (.long y4), .second, .val (.int mode), .val (.long (-18014398509481984 : Int64)), .second, .val (.long (-288230376151711744 : Int64)), .second, .val (.long (-1018231460777725123 : Int64)), .second, .val (.long ky1), .second, .val (.long ky2), .second, .val (.long ky3), .second, .val (.long ky4), .second, .val (.int wh), .val (.int (bi (¬ (wh = (0 : Int32))))), .val (.long rr), .second, .val (.ref b26), .val (.int bb41), .val (.int bb43), .val (.int bb45), .val (.int bb47)] [])) t := by
      intro t k
      show Steps p.tables e below (T58.setTop (mkF m 351 #[.val (.long y1), .second, .val (.long y2), .second, .val (.long z3), .second, .val (.long y4), .second, .val (.int mode), .val (.long (-18014398509481984 : Int64)), .second, .val (.long (-288230376151711744 : Int64)), .second, .val (.long (-1018231460777725123 : Int64)), .second, .val (.long ky1), .second, .val (.long ky2), .second, .val (.long ky3), .second, .val (.long ky4), .second, .val (.int wh), .val (.int (bi (¬ (wh = (0 : Int32))))), .val (.long rr), .second, .val (.ref b26), .val (.int bb41), .val (.int bb43), .val (.int bb45), .val (.int bb47)] [])) t
      refine XS.iconst X58.here hx rfl (hb hby at_351) ?_
      show Steps p.tables e below (T58.setTop (mkF m 352 #[.val (.long y1), .second, .val (.long y2), .second, .val (.long z3), .second, .val (.long y4), .second, .val (.int mode), .val (.long (-18014398509481984 : Int64)), .second, .val (.long (-288230376151711744 : Int64)), .second, .val (.long (-1018231460777725123 : Int64)), .second, .val (.long ky1), .second, .val (.long ky2), .second, .val (.long ky3), .second, .val (.long ky4), .second, .val (.int wh), .val (.int (bi (¬ (wh = (0 : Int32))))), .val (.long rr), .second, .val (.ref b26), .val (.int bb41), .val (.int bb43), .val (.int bb45), .val (.int bb47)] [(.int (1 : Int32))])) t
      refine XS.goto X58.here hx rfl (pc0 := 352) (pc' := 356) rfl (hb hby at_352) (by decide) (by decide) ?_
      exact k
    refine OFin.go S60 ?_
    exact finZ X58 hx Bd.notSynchronized (t := .boolean) Bd.returns (by simp) (hb hby at_356) rfl (by decide) (by decide) (⟨congrArg (fun z => some (Value.int z)) (rfl : (1 : Int32) = (1 : Int32)), N58⟩)
  · -- pc 224: not (¬ (wh = (0 : Int32)))
    have S61 : ∀ t, Steps p.tables e below (T34.setTop (mkF m 235 #[.val (.long y1), .second, .val (.long y2), .second, .val (.long z3), .second, .val (.long y4), .second, .val (.int mode), .val (.long (-18014398509481984 : Int64)), .second, .val (.long (-288230376151711744 : Int64)), .second, .val (.long (-1018231460777725123 : Int64)), .second, .val (.long ky1), .second, .val (.long ky2), .second, .val (.long ky3), .second, .val (.long ky4), .second, .val (.int wh), .val (.int (bi (¬ (wh = (0 : Int32))))), .val (.long rr), .second, .val (.ref b26), .unset, .unset, .unset, .unset] [])) t → Steps p.tables e below (T34.setTop (mkF m 224 #[.val (.long y1), .second, .val (.long y2), .second, .val (.long z3), .second, .val (.long y4), .second, .val (.int mode), .val (.long (-18014398509481984 : Int64)), .second, .val (.long (-288230376151711744 : Int64)), .second, .val (.long (-1018231460777725123 : Int64)), .second, .val (.long ky1), .second, .val (.long ky2), .second, .val (.long ky3), .second, .val (.long ky4), .second, .val (.int wh), .val (.int (bi (¬ (wh = (0 : Int32))))), .val (.long rr), .second, .val (.ref b26), .unset, .unset, .unset, .unset] [(.int (bi (¬ (wh = (0 : Int32)))))])) t := by
      intro t k
      show Steps p.tables e below (T34.setTop (mkF m 224 #[.val (.long y1), .second, .val (.long y2), .second, .val (.long z3), .second, .val (.long y4), .second, .val (.int mode), .val (.long (-18014398509481984 : Int64)), .second, .val (.long (-288230376151711744 : Int64)), .second, .val (.long (-1018231460777725123 : Int64)), .second, .val (.long ky1), .second, .val (.long ky2), .second, .val (.long ky3), .second, .val (.long ky4), .second, .val (.int wh), .val (.int (bi (¬ (wh = (0 : Int32))))), .val (.long rr), .second, .val (.ref b26), .unset, .unset, .unset, .unset] [(.int (bi (¬ (wh = (0 : Int32)))))])) t
      refine XS.ifYes X34.here hx rfl (pc0 := 224) (pc' := 235) rfl (hb hby at_224) rfl (bi_eq_t h36) (by decide) (by decide) ?_
      exact k
    refine OFin.go S61 ?_
    have S62 : ∀ t, Steps p.tables e below (T34.setTop (mkF m 239 #[.val (.long y1), .second, .val (.long y2), .second, .val (.long z3), .second, .val (.long y4), .second, .val (.int mode), .val (.long (-18014398509481984 : Int64)), .second, .val (.long (-288230376151711744 : Int64)), .second, .val (.long (-1018231460777725123 : Int64)), .second, .val (.long ky1), .second, .val (.long ky2), .second, .val (.long ky3), .second, .val (.long ky4), .second, .val (.int wh), .val (.int (bi (¬ (wh = (0 : Int32))))), .val (.long rr), .second, .val (.ref b26), .unset, .unset, .unset, .unset] [(.long ky1), (.ref b26)])) t → Steps p.tables e below (T34.setTop (mkF m 235 #[.val (.long y1), .second, .val (.long y2), .second, .val (.long z3), .second, .val (.long y4), .second, .val (.int mode), .val (.long (-18014398509481984 : Int64)), .second, .val (.long (-288230376151711744 : Int64)), .second, .val (.long (-1018231460777725123 : Int64)), .second, .val (.long ky1), .second, .val (.long ky2), .second, .val (.long ky3), .second, .val (.long ky4), .second, .val (.int wh), .val (.int (bi (¬ (wh = (0 : Int32))))), .val (.long rr), .second, .val (.ref b26), .unset, .unset, .unset, .unset] [])) t := by
      intro t k
      show Steps p.tables e below (T34.setTop (mkF m 235 #[.val (.long y1), .second, .val (.long y2), .second, .val (.long z3), .second, .val (.long y4), .second, .val (.int mode), .val (.long (-18014398509481984 : Int64)), .second, .val (.long (-288230376151711744 : Int64)), .second, .val (.long (-1018231460777725123 : Int64)), .second, .val (.long ky1), .second, .val (.long ky2), .second, .val (.long ky3), .second, .val (.long ky4), .second, .val (.int wh), .val (.int (bi (¬ (wh = (0 : Int32))))), .val (.long rr), .second, .val (.ref b26), .unset, .unset, .unset, .unset] [])) t
      refine XS.aload X34.here hx rfl (hb hby at_235) rfl rfl ?_
      show Steps p.tables e below (T34.setTop (mkF m 237 #[.val (.long y1), .second, .val (.long y2), .second, .val (.long z3), .second, .val (.long y4), .second, .val (.int mode), .val (.long (-18014398509481984 : Int64)), .second, .val (.long (-288230376151711744 : Int64)), .second, .val (.long (-1018231460777725123 : Int64)), .second, .val (.long ky1), .second, .val (.long ky2), .second, .val (.long ky3), .second, .val (.long ky4), .second, .val (.int wh), .val (.int (bi (¬ (wh = (0 : Int32))))), .val (.long rr), .second, .val (.ref b26), .unset, .unset, .unset, .unset] [(.ref b26)])) t
      refine XS.lload X34.here hx rfl (hb hby at_237) rfl ?_
      exact k
    refine OFin.go S62 ?_
    obtain ⟨_, T63, Lc63, X63, hQ63, st63⟩ := virtQ X34 hx hZ (y := (⟨"com/example/clockwrap/clockwrap/store/LongTable", "contains", "(J)Z"⟩ : MethodName)) hown (hw _ (List.mem_of_getElem? (i := 68) rfl)) (hw _ (List.mem_of_getElem? (i := 70) rfl)) (hw _ (List.mem_of_getElem? (i := 6) rfl)) (hw _ (List.mem_of_getElem? (i := 72) rfl)) (hw _ (List.mem_of_getElem? (i := 69) rfl)) (hw _ (List.mem_of_getElem? (i := 71) rfl)) (by decide) Tb34.exa (argsL := [(.long ky1)]) (rest := []) (rm11 l Z a0 hw [] b26 ky1 Wl34 (((0 + 1) + 1) + 1) (addM ky3 (addM ky2 (addM ky1 eM))) T34.heap n0 Z34 Tb34 (by decide)) (W := 0) (by decide) (by decide) rfl (g := (mkF m 239 #[.val (.long y1), .second, .val (.long y2), .second, .val (.long z3), .second, .val (.long y4), .second, .val (.int mode), .val (.long (-18014398509481984 : Int64)), .second, .val (.long (-288230376151711744 : Int64)), .second, .val (.long (-1018231460777725123 : Int64)), .second, .val (.long ky1), .second, .val (.long ky2), .second, .val (.long ky3), .second, .val (.long ky4), .second, .val (.int wh), .val (.int (bi (¬ (wh = (0 : Int32))))), .val (.long rr), .second, .val (.ref b26), .unset, .unset, .unset, .unset] [(.long ky1), (.ref b26)])) rfl (by rw [hml]; rfl) (lenOf pd_6 rfl) rfl (by show 2 * 0 + _ ≤ _; exact Nat.le_of_eq rfl) (hb hby at_239) (Nat.le_of_ble_eq_true rfl) (Nat.le_of_ble_eq_true rfl)
    obtain ⟨bb63, rfl, N63q, e63, h01_63, hi_63⟩ := hQ63
    have N63 := Fr.app N34 N63q
    refine OFin.go st63 ?_
    show OFin p e below _ (T63.setTop (mkF m 242 #[.val (.long y1), .second, .val (.long y2), .second, .val (.long z3), .second, .val (.long y4), .second, .val (.int mode), .val (.long (-18014398509481984 : Int64)), .second, .val (.long (-288230376151711744 : Int64)), .second, .val (.long (-1018231460777725123 : Int64)), .second, .val (.long ky1), .second, .val (.long ky2), .second, .val (.long ky3), .second, .val (.long ky4), .second, .val (.int wh), .val (.int (bi (¬ (wh = (0 : Int32))))), .val (.long rr), .second, .val (.ref b26), .unset, .unset, .unset, .unset] [(.int bb63)]))
    have S64 : ∀ t, Steps p.tables e below (T63.setTop (mkF m 248 #[.val (.long y1), .second, .val (.long y2), .second, .val (.long z3), .second, .val (.long y4), .second, .val (.int mode), .val (.long (-18014398509481984 : Int64)), .second, .val (.long (-288230376151711744 : Int64)), .second, .val (.long (-1018231460777725123 : Int64)), .second, .val (.long ky1), .second, .val (.long ky2), .second, .val (.long ky3), .second, .val (.long ky4), .second, .val (.int wh), .val (.int (bi (¬ (wh = (0 : Int32))))), .val (.long rr), .second, .val (.ref b26), .val (.int bb63), .unset, .unset, .unset] [(.long ky2), (.ref b26)])) t → Steps p.tables e below (T63.setTop (mkF m 242 #[.val (.long y1), .second, .val (.long y2), .second, .val (.long z3), .second, .val (.long y4), .second, .val (.int mode), .val (.long (-18014398509481984 : Int64)), .second, .val (.long (-288230376151711744 : Int64)), .second, .val (.long (-1018231460777725123 : Int64)), .second, .val (.long ky1), .second, .val (.long ky2), .second, .val (.long ky3), .second, .val (.long ky4), .second, .val (.int wh), .val (.int (bi (¬ (wh = (0 : Int32))))), .val (.long rr), .second, .val (.ref b26), .unset, .unset, .unset, .unset] [(.int bb63)])) t := by
      intro t k
      show Steps p.tables e below (T63.setTop (mkF m 242 #[.val (.long y1), .second, .val (.long y2), .second, .val (.long z3), .second, .val (.long y4), .second, .val (.int mode), .val (.long (-18014398509481984 : Int64)), .second, .val (.long (-288230376151711744 : Int64)), .second, .val (.long (-1018231460777725123 : Int64)), .second, .val (.long ky1), .second, .val (.long ky2), .second, .val (.long ky3), .second, .val (.long ky4), .second, .val (.int wh), .val (.int (bi (¬ (wh = (0 : Int32))))), .val (.long rr), .second, .val (.ref b26), .unset, .unset, .unset, .unset] [(.int bb63)])) t
      refine XS.istore X63.here hx rfl (hb hby at_242) rfl (l' := #[.val (.long y1), .second, .val (.long y2), .second, .val (.long z3), .second, .val (.long y4), .second, .val (.int mode), .val (.long (-18014398509481984 : Int64)), .second, .val (.long (-288230376151711744 : Int64)), .second, .val (.long (-1018231460777725123 : Int64)), .second, .val (.long ky1), .second, .val (.long ky2), .second, .val (.long ky3), .second, .val (.long ky4), .second, .val (.int wh), .val (.int (bi (¬ (wh = (0 : Int32))))), .val (.long rr), .second, .val (.ref b26), .val (.int bb63), .unset, .unset, .unset]) rfl ?_
      show Steps p.tables e below (T63.setTop (mkF m 244 #[.val (.long y1), .second, .val (.long y2), .second, .val (.long z3), .second, .val (.long y4), .second, .val (.int mode), .val (.long (-18014398509481984 : Int64)), .second, .val (.long (-288230376151711744 : Int64)), .second, .val (.long (-1018231460777725123 : Int64)), .second, .val (.long ky1), .second, .val (.long ky2), .second, .val (.long ky3), .second, .val (.long ky4), .second, .val (.int wh), .val (.int (bi (¬ (wh = (0 : Int32))))), .val (.long rr), .second, .val (.ref b26), .val (.int bb63), .unset, .unset, .unset] [])) t
      refine XS.aload X63.here hx rfl (hb hby at_244) rfl rfl ?_
      show Steps p.tables e below (T63.setTop (mkF m 246 #[.val (.long y1), .second, .val (.long y2), .second, .val (.long z3), .second, .val (.long y4), .second, .val (.int mode), .val (.long (-18014398509481984 : Int64)), .second, .val (.long (-288230376151711744 : Int64)), .second, .val (.long (-1018231460777725123 : Int64)), .second, .val (.long ky1), .second, .val (.long ky2), .second, .val (.long ky3), .second, .val (.long ky4), .second, .val (.int wh), .val (.int (bi (¬ (wh = (0 : Int32))))), .val (.long rr), .second, .val (.ref b26), .val (.int bb63), .unset, .unset, .unset] [(.ref b26)])) t
      refine XS.lload X63.here hx rfl (hb hby at_246) rfl ?_
      exact k
    refine OFin.go S64 ?_
    obtain ⟨_, T65, Lc65, X65, hQ65, st65⟩ := virtQ X63 hx hZ (y := (⟨"com/example/clockwrap/clockwrap/store/LongTable", "contains", "(J)Z"⟩ : MethodName)) hown (hw _ (List.mem_of_getElem? (i := 68) rfl)) (hw _ (List.mem_of_getElem? (i := 70) rfl)) (hw _ (List.mem_of_getElem? (i := 6) rfl)) (hw _ (List.mem_of_getElem? (i := 72) rfl)) (hw _ (List.mem_of_getElem? (i := 69) rfl)) (hw _ (List.mem_of_getElem? (i := 71) rfl)) (by decide) Tb34.exa (argsL := [(.long ky2)]) (rest := []) (rm11 l Z a0 hw [] b26 ky2 Wl34 (((0 + 1) + 1) + 1) (addM ky3 (addM ky2 (addM ky1 eM))) T34.heap n0 Z34 Tb34 (by decide)) (W := 0) (by decide) (by decide) e63 (g := (mkF m 248 #[.val (.long y1), .second, .val (.long y2), .second, .val (.long z3), .second, .val (.long y4), .second, .val (.int mode), .val (.long (-18014398509481984 : Int64)), .second, .val (.long (-288230376151711744 : Int64)), .second, .val (.long (-1018231460777725123 : Int64)), .second, .val (.long ky1), .second, .val (.long ky2), .second, .val (.long ky3), .second, .val (.long ky4), .second, .val (.int wh), .val (.int (bi (¬ (wh = (0 : Int32))))), .val (.long rr), .second, .val (.ref b26), .val (.int bb63), .unset, .unset, .unset] [(.long ky2), (.ref b26)])) rfl (by rw [hml]; rfl) (lenOf pd_6 rfl) rfl (by show 2 * 0 + _ ≤ _; exact Nat.le_of_eq rfl) (hb hby at_248) (Nat.le_of_ble_eq_true rfl) (Nat.le_of_ble_eq_true rfl)
    obtain ⟨bb65, rfl, N65q, e65, h01_65, hi_65⟩ := hQ65
    have N65 := Fr.app N63 N65q
    refine OFin.go st65 ?_
    show OFin p e below _ (T65.setTop (mkF m 251 #[.val (.long y1), .second, .val (.long y2), .second, .val (.long z3), .second, .val (.long y4), .second, .val (.int mode), .val (.long (-18014398509481984 : Int64)), .second, .val (.long (-288230376151711744 : Int64)), .second, .val (.long (-1018231460777725123 : Int64)), .second, .val (.long ky1), .second, .val (.long ky2), .second, .val (.long ky3), .second, .val (.long ky4), .second, .val (.int wh), .val (.int (bi (¬ (wh = (0 : Int32))))), .val (.long rr), .second, .val (.ref b26), .val (.int bb63), .unset, .unset, .unset] [(.int bb65)]))
    have S66 : ∀ t, Steps p.tables e below (T65.setTop (mkF m 257 #[.val (.long y1), .second, .val (.long y2), .second, .val (.long z3), .second, .val (.long y4), .second, .val (.int mode), .val (.long (-18014398509481984 : Int64)), .second, .val (.long (-288230376151711744 : Int64)), .second, .val (.long (-1018231460777725123 : Int64)), .second, .val (.long ky1), .second, .val (.long ky2), .second, .val (.long ky3), .second, .val (.long ky4), .second, .val (.int wh), .val (.int (bi (¬ (wh = (0 : Int32))))), .val (.long rr), .second, .val (.ref b26), .val (.int bb63), .val (.int bb65), .unset, .unset] [(.long ky3), (.ref b26)])) t → Steps p.tables e below (T65.setTop (mkF m 251 #[.val (.long y1), .second, .val (.long y2), .second, .val (.long z3), .second, .val (.long y4), .second, .val (.int mode), .val (.long (-18014398509481984 : Int64)), .second, .val (.long (-288230376151711744 : Int64)), .second, .val (.long (-1018231460777725123 : Int64)), .second, .val (.long ky1), .second, .val (.long ky2), .second, .val (.long ky3), .second, .val (.long ky4), .second, .val (.int wh), .val (.int (bi (¬ (wh = (0 : Int32))))), .val (.long rr), .second, .val (.ref b26), .val (.int bb63), .unset, .unset, .unset] [(.int bb65)])) t := by
      intro t k
      show Steps p.tables e below (T65.setTop (mkF m 251 #[.val (.long y1), .second, .val (.long y2), .second, .val (.long z3), .second, .val (.long y4), .second, .val (.int mode), .val (.long (-18014398509481984 : Int64)), .second, .val (.long (-288230376151711744 : Int64)), .second, .val (.long (-1018231460777725123 : Int64)), .second, .val (.long ky1), .second, .val (.long ky2), .second, .val (.long ky3), .second, .val (.long ky4), .second, .val (.int wh), .val (.int (bi (¬ (wh = (0 : Int32))))), .val (.long rr), .second, .val (.ref b26), .val (.int bb63), .unset, .unset, .unset] [(.int bb65)])) t
      refine XS.istore X65.here hx rfl (hb hby at_251) rfl (l' := #[.val (.long y1), .second, .val (.long y2), .second, .val (.long z3), .second, .val (.long y4), .second, .val (.int mode), .val (.long (-18014398509481984 : Int64)), .second, .val (.long (-288230376151711744 : Int64)), .second, .val (.long (-1018231460777725123 : Int64)), .second, .val (.long ky1), .second, .val (.long ky2), .second, .val (.long ky3), .second, .val (.long ky4), .second, .val (.int wh), .val (.int (bi (¬ (wh = (0 : Int32))))), .val (.long rr), .second, .val (.ref b26), .val (.int bb63), .val (.int bb65), .unset, .unset]) rfl ?_
      show Steps p.tables e below (T65.setTop (mkF m 253 #[.val (.long y1), .second, .val (.long y2), .second, .val (.long z3), .second, .val (.long y4), .second, .val (.int mode), .val (.long (-18014398509481984 : Int64)), .second, .val (.long (-288230376151711744 : Int64)), .second, .val (.long (-1018231460777725123 : Int64)), .second, .val (.long ky1), .second, .val (.long ky2), .second, .val (.long ky3), .second, .val (.long ky4), .second, .val (.int wh), .val (.int (bi (¬ (wh = (0 : Int32))))), .val (.long rr), .second, .val (.ref b26), .val (.int bb63), .val (.int bb65), .unset, .unset] [])) t
      refine XS.aload X65.here hx rfl (hb hby at_253) rfl rfl ?_
      show Steps p.tables e below (T65.setTop (mkF m 255 #[.val (.long y1), .second, .val (.long y2), .second, .val (.long z3), .second, .val (.long y4), .second, .val (.int mode), .val (.long (-18014398509481984 : Int64)), .second, .val (.long (-288230376151711744 : Int64)), .second, .val (.long (-1018231460777725123 : Int64)), .second, .val (.long ky1), .second, .val (.long ky2), .second, .val (.long ky3), .second, .val (.long ky4), .second, .val (.int wh), .val (.int (bi (¬ (wh = (0 : Int32))))), .val (.long rr), .second, .val (.ref b26), .val (.int bb63), .val (.int bb65), .unset, .unset] [(.ref b26)])) t
      refine XS.lload X65.here hx rfl (hb hby at_255) rfl ?_
      exact k
    refine OFin.go S66 ?_
    obtain ⟨_, T67, Lc67, X67, hQ67, st67⟩ := virtQ X65 hx hZ (y := (⟨"com/example/clockwrap/clockwrap/store/LongTable", "contains", "(J)Z"⟩ : MethodName)) hown (hw _ (List.mem_of_getElem? (i := 68) rfl)) (hw _ (List.mem_of_getElem? (i := 70) rfl)) (hw _ (List.mem_of_getElem? (i := 6) rfl)) (hw _ (List.mem_of_getElem? (i := 72) rfl)) (hw _ (List.mem_of_getElem? (i := 69) rfl)) (hw _ (List.mem_of_getElem? (i := 71) rfl)) (by decide) Tb34.exa (argsL := [(.long ky3)]) (rest := []) (rm11 l Z a0 hw [] b26 ky3 Wl34 (((0 + 1) + 1) + 1) (addM ky3 (addM ky2 (addM ky1 eM))) T34.heap n0 Z34 Tb34 (by decide)) (W := 0) (by decide) (by decide) e65 (g := (mkF m 257 #[.val (.long y1), .second, .val (.long y2), .second, .val (.long z3), .second, .val (.long y4), .second, .val (.int mode), .val (.long (-18014398509481984 : Int64)), .second, .val (.long (-288230376151711744 : Int64)), .second, .val (.long (-1018231460777725123 : Int64)), .second, .val (.long ky1), .second, .val (.long ky2), .second, .val (.long ky3), .second, .val (.long ky4), .second, .val (.int wh), .val (.int (bi (¬ (wh = (0 : Int32))))), .val (.long rr), .second, .val (.ref b26), .val (.int bb63), .val (.int bb65), .unset, .unset] [(.long ky3), (.ref b26)])) rfl (by rw [hml]; rfl) (lenOf pd_6 rfl) rfl (by show 2 * 0 + _ ≤ _; exact Nat.le_of_eq rfl) (hb hby at_257) (Nat.le_of_ble_eq_true rfl) (Nat.le_of_ble_eq_true rfl)
    obtain ⟨bb67, rfl, N67q, e67, h01_67, hi_67⟩ := hQ67
    have N67 := Fr.app N65 N67q
    refine OFin.go st67 ?_
    show OFin p e below _ (T67.setTop (mkF m 260 #[.val (.long y1), .second, .val (.long y2), .second, .val (.long z3), .second, .val (.long y4), .second, .val (.int mode), .val (.long (-18014398509481984 : Int64)), .second, .val (.long (-288230376151711744 : Int64)), .second, .val (.long (-1018231460777725123 : Int64)), .second, .val (.long ky1), .second, .val (.long ky2), .second, .val (.long ky3), .second, .val (.long ky4), .second, .val (.int wh), .val (.int (bi (¬ (wh = (0 : Int32))))), .val (.long rr), .second, .val (.ref b26), .val (.int bb63), .val (.int bb65), .unset, .unset] [(.int bb67)]))
    have S68 : ∀ t, Steps p.tables e below (T67.setTop (mkF m 266 #[.val (.long y1), .second, .val (.long y2), .second, .val (.long z3), .second, .val (.long y4), .second, .val (.int mode), .val (.long (-18014398509481984 : Int64)), .second, .val (.long (-288230376151711744 : Int64)), .second, .val (.long (-1018231460777725123 : Int64)), .second, .val (.long ky1), .second, .val (.long ky2), .second, .val (.long ky3), .second, .val (.long ky4), .second, .val (.int wh), .val (.int (bi (¬ (wh = (0 : Int32))))), .val (.long rr), .second, .val (.ref b26), .val (.int bb63), .val (.int bb65), .val (.int bb67), .unset] [(.long ky4), (.ref b26)])) t → Steps p.tables e below (T67.setTop (mkF m 260 #[.val (.long y1), .second, .val (.long y2), .second, .val (.long z3), .second, .val (.long y4), .second, .val (.int mode), .val (.long (-18014398509481984 : Int64)), .second, .val (.long (-288230376151711744 : Int64)), .second, .val (.long (-1018231460777725123 : Int64)), .second, .val (.long ky1), .second, .val (.long ky2), .second, .val (.long ky3), .second, .val (.long ky4), .second, .val (.int wh), .val (.int (bi (¬ (wh = (0 : Int32))))), .val (.long rr), .second, .val (.ref b26), .val (.int bb63), .val (.int bb65), .unset, .unset] [(.int bb67)])) t := by
      intro t k
      show Steps p.tables e below (T67.setTop (mkF m 260 #[.val (.long y1), .second, .val (.long y2), .second, .val (.long z3), .second, .val (.long y4), .second, .val (.int mode), .val (.long (-18014398509481984 : Int64)), .second, .val (.long (-288230376151711744 : Int64)), .second, .val (.long (-1018231460777725123 : Int64)), .second, .val (.long ky1), .second, .val (.long ky2), .second, .val (.long ky3), .second, .val (.long ky4), .second, .val (.int wh), .val (.int (bi (¬ (wh = (0 : Int32))))), .val (.long rr), .second, .val (.ref b26), .val (.int bb63), .val (.int bb65), .unset, .unset] [(.int bb67)])) t
      refine XS.istore X67.here hx rfl (hb hby at_260) rfl (l' := #[.val (.long y1), .second, .val (.long y2), .second, .val (.long z3), .second, .val (.long y4), .second, .val (.int mode), .val (.long (-18014398509481984 : Int64)), .second, .val (.long (-288230376151711744 : Int64)), .second, .val (.long (-1018231460777725123 : Int64)), .second, .val (.long ky1), .second, .val (.long ky2), .second, .val (.long ky3), .second, .val (.long ky4), .second, .val (.int wh), .val (.int (bi (¬ (wh = (0 : Int32))))), .val (.long rr), .second, .val (.ref b26), .val (.int bb63), .val (.int bb65), .val (.int bb67), .unset]) rfl ?_
      show Steps p.tables e below (T67.setTop (mkF m 262 #[.val (.long y1), .second, .val (.long y2), .second, .val (.long z3), .second, .val (.long y4), .second, .val (.int mode), .val (.long (-18014398509481984 : Int64)), .second, .val (.long (-288230376151711744 : Int64)), .second, .val (.long (-1018231460777725123 : Int64)), .second, .val (.long ky1), .second, .val (.long ky2), .second, .val (.long ky3), .second, .val (.long ky4), .second, .val (.int wh), .val (.int (bi (¬ (wh = (0 : Int32))))), .val (.long rr), .second, .val (.ref b26), .val (.int bb63), .val (.int bb65), .val (.int bb67), .unset] [])) t
      refine XS.aload X67.here hx rfl (hb hby at_262) rfl rfl ?_
      show Steps p.tables e below (T67.setTop (mkF m 264 #[.val (.long y1), .second, .val (.long y2), .second, .val (.long z3), .second, .val (.long y4), .second, .val (.int mode), .val (.long (-18014398509481984 : Int64)), .second, .val (.long (-288230376151711744 : Int64)), .second, .val (.long (-1018231460777725123 : Int64)), .second, .val (.long ky1), .second, .val (.long ky2), .second, .val (.long ky3), .second, .val (.long ky4), .second, .val (.int wh), .val (.int (bi (¬ (wh = (0 : Int32))))), .val (.long rr), .second, .val (.ref b26), .val (.int bb63), .val (.int bb65), .val (.int bb67), .unset] [(.ref b26)])) t
      refine XS.lload X67.here hx rfl (hb hby at_264) rfl ?_
      exact k
    refine OFin.go S68 ?_
    obtain ⟨_, T69, Lc69, X69, hQ69, st69⟩ := virtQ X67 hx hZ (y := (⟨"com/example/clockwrap/clockwrap/store/LongTable", "contains", "(J)Z"⟩ : MethodName)) hown (hw _ (List.mem_of_getElem? (i := 68) rfl)) (hw _ (List.mem_of_getElem? (i := 70) rfl)) (hw _ (List.mem_of_getElem? (i := 6) rfl)) (hw _ (List.mem_of_getElem? (i := 72) rfl)) (hw _ (List.mem_of_getElem? (i := 69) rfl)) (hw _ (List.mem_of_getElem? (i := 71) rfl)) (by decide) Tb34.exa (argsL := [(.long ky4)]) (rest := []) (rm11 l Z a0 hw [] b26 ky4 Wl34 (((0 + 1) + 1) + 1) (addM ky3 (addM ky2 (addM ky1 eM))) T34.heap n0 Z34 Tb34 (by decide)) (W := 0) (by decide) (by decide) e67 (g := (mkF m 266 #[.val (.long y1), .second, .val (.long y2), .second, .val (.long z3), .second, .val (.long y4), .second, .val (.int mode), .val (.long (-18014398509481984 : Int64)), .second, .val (.long (-288230376151711744 : Int64)), .second, .val (.long (-1018231460777725123 : Int64)), .second, .val (.long ky1), .second, .val (.long ky2), .second, .val (.long ky3), .second, .val (.long ky4), .second, .val (.int wh), .val (.int (bi (¬ (wh = (0 : Int32))))), .val (.long rr), .second, .val (.ref b26), .val (.int bb63), .val (.int bb65), .val (.int bb67), .unset] [(.long ky4), (.ref b26)])) rfl (by rw [hml]; rfl) (lenOf pd_6 rfl) rfl (by show 2 * 0 + _ ≤ _; exact Nat.le_of_eq rfl) (hb hby at_266) (Nat.le_of_ble_eq_true rfl) (Nat.le_of_ble_eq_true rfl)
    obtain ⟨bb69, rfl, N69q, e69, h01_69, hi_69⟩ := hQ69
    have N69 := Fr.app N67 N69q
    refine OFin.go st69 ?_
    show OFin p e below _ (T69.setTop (mkF m 269 #[.val (.long y1), .second, .val (.long y2), .second, .val (.long z3), .second, .val (.long y4), .second, .val (.int mode), .val (.long (-18014398509481984 : Int64)), .second, .val (.long (-288230376151711744 : Int64)), .second, .val (.long (-1018231460777725123 : Int64)), .second, .val (.long ky1), .second, .val (.long ky2), .second, .val (.long ky3), .second, .val (.long ky4), .second, .val (.int wh), .val (.int (bi (¬ (wh = (0 : Int32))))), .val (.long rr), .second, .val (.ref b26), .val (.int bb63), .val (.int bb65), .val (.int bb67), .unset] [(.int bb69)]))
    have S70 : ∀ t, Steps p.tables e below (T69.setTop (mkF m 285 #[.val (.long y1), .second, .val (.long y2), .second, .val (.long z3), .second, .val (.long y4), .second, .val (.int mode), .val (.long (-18014398509481984 : Int64)), .second, .val (.long (-288230376151711744 : Int64)), .second, .val (.long (-1018231460777725123 : Int64)), .second, .val (.long ky1), .second, .val (.long ky2), .second, .val (.long ky3), .second, .val (.long ky4), .second, .val (.int wh), .val (.int (bi (¬ (wh = (0 : Int32))))), .val (.long rr), .second, .val (.ref b26), .val (.int bb63), .val (.int bb65), .val (.int bb67), .val (.int bb69)] [(.long rr), (.int (bi (¬ (wh = (0 : Int32))))), (.long ky3), (.long ky2), (.long ky1), (.long ky1), (.int bb63)])) t → Steps p.tables e below (T69.setTop (mkF m 269 #[.val (.long y1), .second, .val (.long y2), .second, .val (.long z3), .second, .val (.long y4), .second, .val (.int mode), .val (.long (-18014398509481984 : Int64)), .second, .val (.long (-288230376151711744 : Int64)), .second, .val (.long (-1018231460777725123 : Int64)), .second, .val (.long ky1), .second, .val (.long ky2), .second, .val (.long ky3), .second, .val (.long ky4), .second, .val (.int wh), .val (.int (bi (¬ (wh = (0 : Int32))))), .val (.long rr), .second, .val (.ref b26), .val (.int bb63), .val (.int bb65), .val (.int bb67), .unset] [(.int bb69)])) t := by
      intro t k
      show Steps p.tables e below (T69.setTop (mkF m 269 #[.val (.long y1), .second, .val (.long y2), .second, .val (.long z3), .second, .val (.long y4), .second, .val (.int mode), .val (.long (-18014398509481984 : Int64)), .second, .val (.long (-288230376151711744 : Int64)), .second, .val (.long (-1018231460777725123 : Int64)), .second, .val (.long ky1), .second, .val (.long ky2), .second, .val (.long ky3), .second, .val (.long ky4), .second, .val (.int wh), .val (.int (bi (¬ (wh = (0 : Int32))))), .val (.long rr), .second, .val (.ref b26), .val (.int bb63), .val (.int bb65), .val (.int bb67), .unset] [(.int bb69)])) t
      refine XS.istore X69.here hx rfl (hb hby at_269) rfl (l' := #[.val (.long y1), .second, .val (.long y2), .second, .val (.long z3), .second, .val (.long y4), .second, .val (.int mode), .val (.long (-18014398509481984 : Int64)), .second, .val (.long (-288230376151711744 : Int64)), .second, .val (.long (-1018231460777725123 : Int64)), .second, .val (.long ky1), .second, .val (.long ky2), .second, .val (.long ky3), .second, .val (.long ky4), .second, .val (.int wh), .val (.int (bi (¬ (wh = (0 : Int32))))), .val (.long rr), .second, .val (.ref b26), .val (.int bb63), .val (.int bb65), .val (.int bb67), .val (.int bb69)]) rfl ?_
      show Steps p.tables e below (T69.setTop (mkF m 271 #[.val (.long y1), .second, .val (.long y2), .second, .val (.long z3), .second, .val (.long y4), .second, .val (.int mode), .val (.long (-18014398509481984 : Int64)), .second, .val (.long (-288230376151711744 : Int64)), .second, .val (.long (-1018231460777725123 : Int64)), .second, .val (.long ky1), .second, .val (.long ky2), .second, .val (.long ky3), .second, .val (.long ky4), .second, .val (.int wh), .val (.int (bi (¬ (wh = (0 : Int32))))), .val (.long rr), .second, .val (.ref b26), .val (.int bb63), .val (.int bb65), .val (.int bb67), .val (.int bb69)] [])) t
      refine XS.iload X69.here hx rfl (hb hby at_271) rfl ?_
      show Steps p.tables e below (T69.setTop (mkF m 273 #[.val (.long y1), .second, .val (.long y2), .second, .val (.long z3), .second, .val (.long y4), .second, .val (.int mode), .val (.long (-18014398509481984 : Int64)), .second, .val (.long (-288230376151711744 : Int64)), .second, .val (.long (-1018231460777725123 : Int64)), .second, .val (.long ky1), .second, .val (.long ky2), .second, .val (.long ky3), .second, .val (.long ky4), .second, .val (.int wh), .val (.int (bi (¬ (wh = (0 : Int32))))), .val (.long rr), .second, .val (.ref b26), .val (.int bb63), .val (.int bb65), .val (.int bb67), .val (.int bb69)] [(.int bb63)])) t
      refine XS.lload X69.here hx rfl (hb hby at_273) rfl ?_
      show Steps p.tables e below (T69.setTop (mkF m 275 #[.val (.long y1), .second, .val (.long y2), .second, .val (.long z3), .second, .val (.long y4), .second, .val (.int mode), .val (.long (-18014398509481984 : Int64)), .second, .val (.long (-288230376151711744 : Int64)), .second, .val (.long (-1018231460777725123 : Int64)), .second, .val (.long ky1), .second, .val (.long ky2), .second, .val (.long ky3), .second, .val (.long ky4), .second, .val (.int wh), .val (.int (bi (¬ (wh = (0 : Int32))))), .val (.long rr), .second, .val (.ref b26), .val (.int bb63), .val (.int bb65), .val (.int bb67), .val (.int bb69)] [(.long ky1), (.int bb63)])) t
      refine XS.lload X69.here hx rfl (hb hby at_275) rfl ?_
      show Steps p.tables e below (T69.setTop (mkF m 277 #[.val (.long y1), .second, .val (.long y2), .second, .val (.long z3), .second, .val (.long y4), .second, .val (.int mode), .val (.long (-18014398509481984 : Int64)), .second, .val (.long (-288230376151711744 : Int64)), .second, .val (.long (-1018231460777725123 : Int64)), .second, .val (.long ky1), .second, .val (.long ky2), .second, .val (.long ky3), .second, .val (.long ky4), .second, .val (.int wh), .val (.int (bi (¬ (wh = (0 : Int32))))), .val (.long rr), .second, .val (.ref b26), .val (.int bb63), .val (.int bb65), .val (.int bb67), .val (.int bb69)] [(.long ky1), (.long ky1), (.int bb63)])) t
      refine XS.lload X69.here hx rfl (hb hby at_277) rfl ?_
      show Steps p.tables e below (T69.setTop (mkF m 279 #[.val (.long y1), .second, .val (.long y2), .second, .val (.long z3), .second, .val (.long y4), .second, .val (.int mode), .val (.long (-18014398509481984 : Int64)), .second, .val (.long (-288230376151711744 : Int64)), .second, .val (.long (-1018231460777725123 : Int64)), .second, .val (.long ky1), .second, .val (.long ky2), .second, .val (.long ky3), .second, .val (.long ky4), .second, .val (.int wh), .val (.int (bi (¬ (wh = (0 : Int32))))), .val (.long rr), .second, .val (.ref b26), .val (.int bb63), .val (.int bb65), .val (.int bb67), .val (.int bb69)] [(.long ky2), (.long ky1), (.long ky1), (.int bb63)])) t
      refine XS.lload X69.here hx rfl (hb hby at_279) rfl ?_
      show Steps p.tables e below (T69.setTop (mkF m 281 #[.val (.long y1), .second, .val (.long y2), .second, .val (.long z3), .second, .val (.long y4), .second, .val (.int mode), .val (.long (-18014398509481984 : Int64)), .second, .val (.long (-288230376151711744 : Int64)), .second, .val (.long (-1018231460777725123 : Int64)), .second, .val (.long ky1), .second, .val (.long ky2), .second, .val (.long ky3), .second, .val (.long ky4), .second, .val (.int wh), .val (.int (bi (¬ (wh = (0 : Int32))))), .val (.long rr), .second, .val (.ref b26), .val (.int bb63), .val (.int bb65), .val (.int bb67), .val (.int bb69)] [(.long ky3), (.long ky2), (.long ky1), (.long ky1), (.int bb63)])) t
      refine XS.iload X69.here hx rfl (hb hby at_281) rfl ?_
      show Steps p.tables e below (T69.setTop (mkF m 283 #[.val (.long y1), .second, .val (.long y2), .second, .val (.long z3), .second, .val (.long y4), .second, .val (.int mode), .val (.long (-18014398509481984 : Int64)), .second, .val (.long (-288230376151711744 : Int64)), .second, .val (.long (-1018231460777725123 : Int64)), .second, .val (.long ky1), .second, .val (.long ky2), .second, .val (.long ky3), .second, .val (.long ky4), .second, .val (.int wh), .val (.int (bi (¬ (wh = (0 : Int32))))), .val (.long rr), .second, .val (.ref b26), .val (.int bb63), .val (.int bb65), .val (.int bb67), .val (.int bb69)] [(.int (bi (¬ (wh = (0 : Int32))))), (.long ky3), (.long ky2), (.long ky1), (.long ky1), (.int bb63)])) t
      refine XS.lload X69.here hx rfl (hb hby at_283) rfl ?_
      exact k
    refine OFin.go S70 ?_
    obtain ⟨_, T71, Lc71, X71, hQ71, st71⟩ := callQ X69 hx hZ (y := (⟨"com/example/clockwrap/clockwrap/store/LongTableContainsPinLaw", "model", "(JJJJZJ)Z"⟩ : MethodName)) hown (hw _ (List.mem_of_getElem? (i := 78) rfl)) (hw _ (List.mem_of_getElem? (i := 79) rfl)) (hw _ (List.mem_of_getElem? (i := 80) rfl)) (hw _ (List.mem_of_getElem? (i := 81) rfl)) (by decide) (argsL := [(.long ky1), (.long ky1), (.long ky2), (.long ky3), (.int (bi (¬ (wh = (0 : Int32))))), (.long rr)]) (rest := [(.int bb63)]) (rm13 l Z a0 hw [] ky1 ky1 ky2 ky3 (bi (¬ (wh = (0 : Int32)))) rr T34.heap n0 Z34) (W := 1) (by decide) (by decide) e69 (g := (mkF m 285 #[.val (.long y1), .second, .val (.long y2), .second, .val (.long z3), .second, .val (.long y4), .second, .val (.int mode), .val (.long (-18014398509481984 : Int64)), .second, .val (.long (-288230376151711744 : Int64)), .second, .val (.long (-1018231460777725123 : Int64)), .second, .val (.long ky1), .second, .val (.long ky2), .second, .val (.long ky3), .second, .val (.long ky4), .second, .val (.int wh), .val (.int (bi (¬ (wh = (0 : Int32))))), .val (.long rr), .second, .val (.ref b26), .val (.int bb63), .val (.int bb65), .val (.int bb67), .val (.int bb69)] [(.long rr), (.int (bi (¬ (wh = (0 : Int32))))), (.long ky3), (.long ky2), (.long ky1), (.long ky1), (.int bb63)])) rfl (by rw [hml]; rfl) (lenOf pd_7 rfl) rfl (by show 2 * 0 + _ ≤ _; exact Nat.le_of_eq rfl) (hb hby at_285) (Nat.le_of_ble_eq_true rfl) (Nat.le_of_ble_eq_true rfl)
    obtain ⟨rfl, N71q, e71⟩ := hQ71
    have N71 := Fr.app N69 N71q
    refine OFin.go st71 ?_
    show OFin p e below _ (T71.setTop (mkF m 288 #[.val (.long y1), .second, .val (.long y2), .second, .val (.long z3), .second, .val (.long y4), .second, .val (.int mode), .val (.long (-18014398509481984 : Int64)), .second, .val (.long (-288230376151711744 : Int64)), .second, .val (.long (-1018231460777725123 : Int64)), .second, .val (.long ky1), .second, .val (.long ky2), .second, .val (.long ky3), .second, .val (.long ky4), .second, .val (.int wh), .val (.int (bi (¬ (wh = (0 : Int32))))), .val (.long rr), .second, .val (.ref b26), .val (.int bb63), .val (.int bb65), .val (.int bb67), .val (.int bb69)] [(.int (modelF ky1 ky1 ky2 ky3 (bi (¬ (wh = (0 : Int32)))) rr)), (.int bb63)]))
    have S72 : ∀ t, Steps p.tables e below (T71.setTop (mkF m 291 #[.val (.long y1), .second, .val (.long y2), .second, .val (.long z3), .second, .val (.long y4), .second, .val (.int mode), .val (.long (-18014398509481984 : Int64)), .second, .val (.long (-288230376151711744 : Int64)), .second, .val (.long (-1018231460777725123 : Int64)), .second, .val (.long ky1), .second, .val (.long ky2), .second, .val (.long ky3), .second, .val (.long ky4), .second, .val (.int wh), .val (.int (bi (¬ (wh = (0 : Int32))))), .val (.long rr), .second, .val (.ref b26), .val (.int bb63), .val (.int bb65), .val (.int bb67), .val (.int bb69)] [])) t → Steps p.tables e below (T71.setTop (mkF m 288 #[.val (.long y1), .second, .val (.long y2), .second, .val (.long z3), .second, .val (.long y4), .second, .val (.int mode), .val (.long (-18014398509481984 : Int64)), .second, .val (.long (-288230376151711744 : Int64)), .second, .val (.long (-1018231460777725123 : Int64)), .second, .val (.long ky1), .second, .val (.long ky2), .second, .val (.long ky3), .second, .val (.long ky4), .second, .val (.int wh), .val (.int (bi (¬ (wh = (0 : Int32))))), .val (.long rr), .second, .val (.ref b26), .val (.int bb63), .val (.int bb65), .val (.int bb67), .val (.int bb69)] [(.int (modelF ky1 ky1 ky2 ky3 (bi (¬ (wh = (0 : Int32)))) rr)), (.int bb63)])) t := by
      intro t k
      show Steps p.tables e below (T71.setTop (mkF m 288 #[.val (.long y1), .second, .val (.long y2), .second, .val (.long z3), .second, .val (.long y4), .second, .val (.int mode), .val (.long (-18014398509481984 : Int64)), .second, .val (.long (-288230376151711744 : Int64)), .second, .val (.long (-1018231460777725123 : Int64)), .second, .val (.long ky1), .second, .val (.long ky2), .second, .val (.long ky3), .second, .val (.long ky4), .second, .val (.int wh), .val (.int (bi (¬ (wh = (0 : Int32))))), .val (.long rr), .second, .val (.ref b26), .val (.int bb63), .val (.int bb65), .val (.int bb67), .val (.int bb69)] [(.int (modelF ky1 ky1 ky2 ky3 (bi (¬ (wh = (0 : Int32)))) rr)), (.int bb63)])) t
      refine XS.icmpNo X71.here hx rfl (hb hby at_288) rfl (teq (own_model _ _ _ _ _ _ h01_63 (own_fin0 (bi_f h36) hi_63))).2 ?_
      exact k
    refine OFin.go S72 ?_
    have S73 : ∀ t, Steps p.tables e below (T71.setTop (mkF m 305 #[.val (.long y1), .second, .val (.long y2), .second, .val (.long z3), .second, .val (.long y4), .second, .val (.int mode), .val (.long (-18014398509481984 : Int64)), .second, .val (.long (-288230376151711744 : Int64)), .second, .val (.long (-1018231460777725123 : Int64)), .second, .val (.long ky1), .second, .val (.long ky2), .second, .val (.long ky3), .second, .val (.long ky4), .second, .val (.int wh), .val (.int (bi (¬ (wh = (0 : Int32))))), .val (.long rr), .second, .val (.ref b26), .val (.int bb63), .val (.int bb65), .val (.int bb67), .val (.int bb69)] [(.long rr), (.int (bi (¬ (wh = (0 : Int32))))), (.long ky3), (.long ky2), (.long ky1), (.long ky2), (.int bb65)])) t → Steps p.tables e below (T71.setTop (mkF m 291 #[.val (.long y1), .second, .val (.long y2), .second, .val (.long z3), .second, .val (.long y4), .second, .val (.int mode), .val (.long (-18014398509481984 : Int64)), .second, .val (.long (-288230376151711744 : Int64)), .second, .val (.long (-1018231460777725123 : Int64)), .second, .val (.long ky1), .second, .val (.long ky2), .second, .val (.long ky3), .second, .val (.long ky4), .second, .val (.int wh), .val (.int (bi (¬ (wh = (0 : Int32))))), .val (.long rr), .second, .val (.ref b26), .val (.int bb63), .val (.int bb65), .val (.int bb67), .val (.int bb69)] [])) t := by
      intro t k
      show Steps p.tables e below (T71.setTop (mkF m 291 #[.val (.long y1), .second, .val (.long y2), .second, .val (.long z3), .second, .val (.long y4), .second, .val (.int mode), .val (.long (-18014398509481984 : Int64)), .second, .val (.long (-288230376151711744 : Int64)), .second, .val (.long (-1018231460777725123 : Int64)), .second, .val (.long ky1), .second, .val (.long ky2), .second, .val (.long ky3), .second, .val (.long ky4), .second, .val (.int wh), .val (.int (bi (¬ (wh = (0 : Int32))))), .val (.long rr), .second, .val (.ref b26), .val (.int bb63), .val (.int bb65), .val (.int bb67), .val (.int bb69)] [])) t
      refine XS.iload X71.here hx rfl (hb hby at_291) rfl ?_
      show Steps p.tables e below (T71.setTop (mkF m 293 #[.val (.long y1), .second, .val (.long y2), .second, .val (.long z3), .second, .val (.long y4), .second, .val (.int mode), .val (.long (-18014398509481984 : Int64)), .second, .val (.long (-288230376151711744 : Int64)), .second, .val (.long (-1018231460777725123 : Int64)), .second, .val (.long ky1), .second, .val (.long ky2), .second, .val (.long ky3), .second, .val (.long ky4), .second, .val (.int wh), .val (.int (bi (¬ (wh = (0 : Int32))))), .val (.long rr), .second, .val (.ref b26), .val (.int bb63), .val (.int bb65), .val (.int bb67), .val (.int bb69)] [(.int bb65)])) t
      refine XS.lload X71.here hx rfl (hb hby at_293) rfl ?_
      show Steps p.tables e below (T71.setTop (mkF m 295 #[.val (.long y1), .second, .val (.long y2), .second, .val (.long z3), .second, .val (.long y4), .second, .val (.int mode), .val (.long (-18014398509481984 : Int64)), .second, .val (.long (-288230376151711744 : Int64)), .second, .val (.long (-1018231460777725123 : Int64)), .second, .val (.long ky1), .second, .val (.long ky2), .second, .val (.long ky3), .second, .val (.long ky4), .second, .val (.int wh), .val (.int (bi (¬ (wh = (0 : Int32))))), .val (.long rr), .second, .val (.ref b26), .val (.int bb63), .val (.int bb65), .val (.int bb67), .val (.int bb69)] [(.long ky2), (.int bb65)])) t
      refine XS.lload X71.here hx rfl (hb hby at_295) rfl ?_
      show Steps p.tables e below (T71.setTop (mkF m 297 #[.val (.long y1), .second, .val (.long y2), .second, .val (.long z3), .second, .val (.long y4), .second, .val (.int mode), .val (.long (-18014398509481984 : Int64)), .second, .val (.long (-288230376151711744 : Int64)), .second, .val (.long (-1018231460777725123 : Int64)), .second, .val (.long ky1), .second, .val (.long ky2), .second, .val (.long ky3), .second, .val (.long ky4), .second, .val (.int wh), .val (.int (bi (¬ (wh = (0 : Int32))))), .val (.long rr), .second, .val (.ref b26), .val (.int bb63), .val (.int bb65), .val (.int bb67), .val (.int bb69)] [(.long ky1), (.long ky2), (.int bb65)])) t
      refine XS.lload X71.here hx rfl (hb hby at_297) rfl ?_
      show Steps p.tables e below (T71.setTop (mkF m 299 #[.val (.long y1), .second, .val (.long y2), .second, .val (.long z3), .second, .val (.long y4), .second, .val (.int mode), .val (.long (-18014398509481984 : Int64)), .second, .val (.long (-288230376151711744 : Int64)), .second, .val (.long (-1018231460777725123 : Int64)), .second, .val (.long ky1), .second, .val (.long ky2), .second, .val (.long ky3), .second, .val (.long ky4), .second, .val (.int wh), .val (.int (bi (¬ (wh = (0 : Int32))))), .val (.long rr), .second, .val (.ref b26), .val (.int bb63), .val (.int bb65), .val (.int bb67), .val (.int bb69)] [(.long ky2), (.long ky1), (.long ky2), (.int bb65)])) t
      refine XS.lload X71.here hx rfl (hb hby at_299) rfl ?_
      show Steps p.tables e below (T71.setTop (mkF m 301 #[.val (.long y1), .second, .val (.long y2), .second, .val (.long z3), .second, .val (.long y4), .second, .val (.int mode), .val (.long (-18014398509481984 : Int64)), .second, .val (.long (-288230376151711744 : Int64)), .second, .val (.long (-1018231460777725123 : Int64)), .second, .val (.long ky1), .second, .val (.long ky2), .second, .val (.long ky3), .second, .val (.long ky4), .second, .val (.int wh), .val (.int (bi (¬ (wh = (0 : Int32))))), .val (.long rr), .second, .val (.ref b26), .val (.int bb63), .val (.int bb65), .val (.int bb67), .val (.int bb69)] [(.long ky3), (.long ky2), (.long ky1), (.long ky2), (.int bb65)])) t
      refine XS.iload X71.here hx rfl (hb hby at_301) rfl ?_
      show Steps p.tables e below (T71.setTop (mkF m 303 #[.val (.long y1), .second, .val (.long y2), .second, .val (.long z3), .second, .val (.long y4), .second, .val (.int mode), .val (.long (-18014398509481984 : Int64)), .second, .val (.long (-288230376151711744 : Int64)), .second, .val (.long (-1018231460777725123 : Int64)), .second, .val (.long ky1), .second, .val (.long ky2), .second, .val (.long ky3), .second, .val (.long ky4), .second, .val (.int wh), .val (.int (bi (¬ (wh = (0 : Int32))))), .val (.long rr), .second, .val (.ref b26), .val (.int bb63), .val (.int bb65), .val (.int bb67), .val (.int bb69)] [(.int (bi (¬ (wh = (0 : Int32))))), (.long ky3), (.long ky2), (.long ky1), (.long ky2), (.int bb65)])) t
      refine XS.lload X71.here hx rfl (hb hby at_303) rfl ?_
      exact k
    refine OFin.go S73 ?_
    obtain ⟨_, T74, Lc74, X74, hQ74, st74⟩ := callQ X71 hx hZ (y := (⟨"com/example/clockwrap/clockwrap/store/LongTableContainsPinLaw", "model", "(JJJJZJ)Z"⟩ : MethodName)) hown (hw _ (List.mem_of_getElem? (i := 78) rfl)) (hw _ (List.mem_of_getElem? (i := 79) rfl)) (hw _ (List.mem_of_getElem? (i := 80) rfl)) (hw _ (List.mem_of_getElem? (i := 81) rfl)) (by decide) (argsL := [(.long ky2), (.long ky1), (.long ky2), (.long ky3), (.int (bi (¬ (wh = (0 : Int32))))), (.long rr)]) (rest := [(.int bb65)]) (rm13 l Z a0 hw [] ky2 ky1 ky2 ky3 (bi (¬ (wh = (0 : Int32)))) rr T34.heap n0 Z34) (W := 1) (by decide) (by decide) e71 (g := (mkF m 305 #[.val (.long y1), .second, .val (.long y2), .second, .val (.long z3), .second, .val (.long y4), .second, .val (.int mode), .val (.long (-18014398509481984 : Int64)), .second, .val (.long (-288230376151711744 : Int64)), .second, .val (.long (-1018231460777725123 : Int64)), .second, .val (.long ky1), .second, .val (.long ky2), .second, .val (.long ky3), .second, .val (.long ky4), .second, .val (.int wh), .val (.int (bi (¬ (wh = (0 : Int32))))), .val (.long rr), .second, .val (.ref b26), .val (.int bb63), .val (.int bb65), .val (.int bb67), .val (.int bb69)] [(.long rr), (.int (bi (¬ (wh = (0 : Int32))))), (.long ky3), (.long ky2), (.long ky1), (.long ky2), (.int bb65)])) rfl (by rw [hml]; rfl) (lenOf pd_7 rfl) rfl (by show 2 * 0 + _ ≤ _; exact Nat.le_of_eq rfl) (hb hby at_305) (Nat.le_of_ble_eq_true rfl) (Nat.le_of_ble_eq_true rfl)
    obtain ⟨rfl, N74q, e74⟩ := hQ74
    have N74 := Fr.app N71 N74q
    refine OFin.go st74 ?_
    show OFin p e below _ (T74.setTop (mkF m 308 #[.val (.long y1), .second, .val (.long y2), .second, .val (.long z3), .second, .val (.long y4), .second, .val (.int mode), .val (.long (-18014398509481984 : Int64)), .second, .val (.long (-288230376151711744 : Int64)), .second, .val (.long (-1018231460777725123 : Int64)), .second, .val (.long ky1), .second, .val (.long ky2), .second, .val (.long ky3), .second, .val (.long ky4), .second, .val (.int wh), .val (.int (bi (¬ (wh = (0 : Int32))))), .val (.long rr), .second, .val (.ref b26), .val (.int bb63), .val (.int bb65), .val (.int bb67), .val (.int bb69)] [(.int (modelF ky2 ky1 ky2 ky3 (bi (¬ (wh = (0 : Int32)))) rr)), (.int bb65)]))
    have S75 : ∀ t, Steps p.tables e below (T74.setTop (mkF m 311 #[.val (.long y1), .second, .val (.long y2), .second, .val (.long z3), .second, .val (.long y4), .second, .val (.int mode), .val (.long (-18014398509481984 : Int64)), .second, .val (.long (-288230376151711744 : Int64)), .second, .val (.long (-1018231460777725123 : Int64)), .second, .val (.long ky1), .second, .val (.long ky2), .second, .val (.long ky3), .second, .val (.long ky4), .second, .val (.int wh), .val (.int (bi (¬ (wh = (0 : Int32))))), .val (.long rr), .second, .val (.ref b26), .val (.int bb63), .val (.int bb65), .val (.int bb67), .val (.int bb69)] [])) t → Steps p.tables e below (T74.setTop (mkF m 308 #[.val (.long y1), .second, .val (.long y2), .second, .val (.long z3), .second, .val (.long y4), .second, .val (.int mode), .val (.long (-18014398509481984 : Int64)), .second, .val (.long (-288230376151711744 : Int64)), .second, .val (.long (-1018231460777725123 : Int64)), .second, .val (.long ky1), .second, .val (.long ky2), .second, .val (.long ky3), .second, .val (.long ky4), .second, .val (.int wh), .val (.int (bi (¬ (wh = (0 : Int32))))), .val (.long rr), .second, .val (.ref b26), .val (.int bb63), .val (.int bb65), .val (.int bb67), .val (.int bb69)] [(.int (modelF ky2 ky1 ky2 ky3 (bi (¬ (wh = (0 : Int32)))) rr)), (.int bb65)])) t := by
      intro t k
      show Steps p.tables e below (T74.setTop (mkF m 308 #[.val (.long y1), .second, .val (.long y2), .second, .val (.long z3), .second, .val (.long y4), .second, .val (.int mode), .val (.long (-18014398509481984 : Int64)), .second, .val (.long (-288230376151711744 : Int64)), .second, .val (.long (-1018231460777725123 : Int64)), .second, .val (.long ky1), .second, .val (.long ky2), .second, .val (.long ky3), .second, .val (.long ky4), .second, .val (.int wh), .val (.int (bi (¬ (wh = (0 : Int32))))), .val (.long rr), .second, .val (.ref b26), .val (.int bb63), .val (.int bb65), .val (.int bb67), .val (.int bb69)] [(.int (modelF ky2 ky1 ky2 ky3 (bi (¬ (wh = (0 : Int32)))) rr)), (.int bb65)])) t
      refine XS.icmpNo X74.here hx rfl (hb hby at_308) rfl (teq (own_model _ _ _ _ _ _ h01_65 (own_fin0 (bi_f h36) hi_65))).2 ?_
      exact k
    refine OFin.go S75 ?_
    have S76 : ∀ t, Steps p.tables e below (T74.setTop (mkF m 325 #[.val (.long y1), .second, .val (.long y2), .second, .val (.long z3), .second, .val (.long y4), .second, .val (.int mode), .val (.long (-18014398509481984 : Int64)), .second, .val (.long (-288230376151711744 : Int64)), .second, .val (.long (-1018231460777725123 : Int64)), .second, .val (.long ky1), .second, .val (.long ky2), .second, .val (.long ky3), .second, .val (.long ky4), .second, .val (.int wh), .val (.int (bi (¬ (wh = (0 : Int32))))), .val (.long rr), .second, .val (.ref b26), .val (.int bb63), .val (.int bb65), .val (.int bb67), .val (.int bb69)] [(.long rr), (.int (bi (¬ (wh = (0 : Int32))))), (.long ky3), (.long ky2), (.long ky1), (.long ky3), (.int bb67)])) t → Steps p.tables e below (T74.setTop (mkF m 311 #[.val (.long y1), .second, .val (.long y2), .second, .val (.long z3), .second, .val (.long y4), .second, .val (.int mode), .val (.long (-18014398509481984 : Int64)), .second, .val (.long (-288230376151711744 : Int64)), .second, .val (.long (-1018231460777725123 : Int64)), .second, .val (.long ky1), .second, .val (.long ky2), .second, .val (.long ky3), .second, .val (.long ky4), .second, .val (.int wh), .val (.int (bi (¬ (wh = (0 : Int32))))), .val (.long rr), .second, .val (.ref b26), .val (.int bb63), .val (.int bb65), .val (.int bb67), .val (.int bb69)] [])) t := by
      intro t k
      show Steps p.tables e below (T74.setTop (mkF m 311 #[.val (.long y1), .second, .val (.long y2), .second, .val (.long z3), .second, .val (.long y4), .second, .val (.int mode), .val (.long (-18014398509481984 : Int64)), .second, .val (.long (-288230376151711744 : Int64)), .second, .val (.long (-1018231460777725123 : Int64)), .second, .val (.long ky1), .second, .val (.long ky2), .second, .val (.long ky3), .second, .val (.long ky4), .second, .val (.int wh), .val (.int (bi (¬ (wh = (0 : Int32))))), .val (.long rr), .second, .val (.ref b26), .val (.int bb63), .val (.int bb65), .val (.int bb67), .val (.int bb69)] [])) t
      refine XS.iload X74.here hx rfl (hb hby at_311) rfl ?_
      show Steps p.tables e below (T74.setTop (mkF m 313 #[.val (.long y1), .second, .val (.long y2), .second, .val (.long z3), .second, .val (.long y4), .second, .val (.int mode), .val (.long (-18014398509481984 : Int64)), .second, .val (.long (-288230376151711744 : Int64)), .second, .val (.long (-1018231460777725123 : Int64)), .second, .val (.long ky1), .second, .val (.long ky2), .second, .val (.long ky3), .second, .val (.long ky4), .second, .val (.int wh), .val (.int (bi (¬ (wh = (0 : Int32))))), .val (.long rr), .second, .val (.ref b26), .val (.int bb63), .val (.int bb65), .val (.int bb67), .val (.int bb69)] [(.int bb67)])) t
      refine XS.lload X74.here hx rfl (hb hby at_313) rfl ?_
      show Steps p.tables e below (T74.setTop (mkF m 315 #[.val (.long y1), .second, .val (.long y2), .second, .val (.long z3), .second, .val (.long y4), .second, .val (.int mode), .val (.long (-18014398509481984 : Int64)), .second, .val (.long (-288230376151711744 : Int64)), .second, .val (.long (-1018231460777725123 : Int64)), .second, .val (.long ky1), .second, .val (.long ky2), .second, .val (.long ky3), .second, .val (.long ky4), .second, .val (.int wh), .val (.int (bi (¬ (wh = (0 : Int32))))), .val (.long rr), .second, .val (.ref b26), .val (.int bb63), .val (.int bb65), .val (.int bb67), .val (.int bb69)] [(.long ky3), (.int bb67)])) t
      refine XS.lload X74.here hx rfl (hb hby at_315) rfl ?_
      show Steps p.tables e below (T74.setTop (mkF m 317 #[.val (.long y1), .second, .val (.long y2), .second, .val (.long z3), .second, .val (.long y4), .second, .val (.int mode), .val (.long (-18014398509481984 : Int64)), .second, .val (.long (-288230376151711744 : Int64)), .second, .val (.long (-1018231460777725123 : Int64)), .second, .val (.long ky1), .second, .val (.long ky2), .second, .val (.long ky3), .second, .val (.long ky4), .second, .val (.int wh), .val (.int (bi (¬ (wh = (0 : Int32))))), .val (.long rr), .second, .val (.ref b26), .val (.int bb63), .val (.int bb65), .val (.int bb67), .val (.int bb69)] [(.long ky1), (.long ky3), (.int bb67)])) t
      refine XS.lload X74.here hx rfl (hb hby at_317) rfl ?_
      show Steps p.tables e below (T74.setTop (mkF m 319 #[.val (.long y1), .second, .val (.long y2), .second, .val (.long z3), .second, .val (.long y4), .second, .val (.int mode), .val (.long (-18014398509481984 : Int64)), .second, .val (.long (-288230376151711744 : Int64)), .second, .val (.long (-1018231460777725123 : Int64)), .second, .val (.long ky1), .second, .val (.long ky2), .second, .val (.long ky3), .second, .val (.long ky4), .second, .val (.int wh), .val (.int (bi (¬ (wh = (0 : Int32))))), .val (.long rr), .second, .val (.ref b26), .val (.int bb63), .val (.int bb65), .val (.int bb67), .val (.int bb69)] [(.long ky2), (.long ky1), (.long ky3), (.int bb67)])) t
      refine XS.lload X74.here hx rfl (hb hby at_319) rfl ?_
      show Steps p.tables e below (T74.setTop (mkF m 321 #[.val (.long y1), .second, .val (.long y2), .second, .val (.long z3), .second, .val (.long y4), .second, .val (.int mode), .val (.long (-18014398509481984 : Int64)), .second, .val (.long (-288230376151711744 : Int64)), .second, .val (.long (-1018231460777725123 : Int64)), .second, .val (.long ky1), .second, .val (.long ky2), .second, .val (.long ky3), .second, .val (.long ky4), .second, .val (.int wh), .val (.int (bi (¬ (wh = (0 : Int32))))), .val (.long rr), .second, .val (.ref b26), .val (.int bb63), .val (.int bb65), .val (.int bb67), .val (.int bb69)] [(.long ky3), (.long ky2), (.long ky1), (.long ky3), (.int bb67)])) t
      refine XS.iload X74.here hx rfl (hb hby at_321) rfl ?_
      show Steps p.tables e below (T74.setTop (mkF m 323 #[.val (.long y1), .second, .val (.long y2), .second, .val (.long z3), .second, .val (.long y4), .second, .val (.int mode), .val (.long (-18014398509481984 : Int64)), .second, .val (.long (-288230376151711744 : Int64)), .second, .val (.long (-1018231460777725123 : Int64)), .second, .val (.long ky1), .second, .val (.long ky2), .second, .val (.long ky3), .second, .val (.long ky4), .second, .val (.int wh), .val (.int (bi (¬ (wh = (0 : Int32))))), .val (.long rr), .second, .val (.ref b26), .val (.int bb63), .val (.int bb65), .val (.int bb67), .val (.int bb69)] [(.int (bi (¬ (wh = (0 : Int32))))), (.long ky3), (.long ky2), (.long ky1), (.long ky3), (.int bb67)])) t
      refine XS.lload X74.here hx rfl (hb hby at_323) rfl ?_
      exact k
    refine OFin.go S76 ?_
    obtain ⟨_, T77, Lc77, X77, hQ77, st77⟩ := callQ X74 hx hZ (y := (⟨"com/example/clockwrap/clockwrap/store/LongTableContainsPinLaw", "model", "(JJJJZJ)Z"⟩ : MethodName)) hown (hw _ (List.mem_of_getElem? (i := 78) rfl)) (hw _ (List.mem_of_getElem? (i := 79) rfl)) (hw _ (List.mem_of_getElem? (i := 80) rfl)) (hw _ (List.mem_of_getElem? (i := 81) rfl)) (by decide) (argsL := [(.long ky3), (.long ky1), (.long ky2), (.long ky3), (.int (bi (¬ (wh = (0 : Int32))))), (.long rr)]) (rest := [(.int bb67)]) (rm13 l Z a0 hw [] ky3 ky1 ky2 ky3 (bi (¬ (wh = (0 : Int32)))) rr T34.heap n0 Z34) (W := 1) (by decide) (by decide) e74 (g := (mkF m 325 #[.val (.long y1), .second, .val (.long y2), .second, .val (.long z3), .second, .val (.long y4), .second, .val (.int mode), .val (.long (-18014398509481984 : Int64)), .second, .val (.long (-288230376151711744 : Int64)), .second, .val (.long (-1018231460777725123 : Int64)), .second, .val (.long ky1), .second, .val (.long ky2), .second, .val (.long ky3), .second, .val (.long ky4), .second, .val (.int wh), .val (.int (bi (¬ (wh = (0 : Int32))))), .val (.long rr), .second, .val (.ref b26), .val (.int bb63), .val (.int bb65), .val (.int bb67), .val (.int bb69)] [(.long rr), (.int (bi (¬ (wh = (0 : Int32))))), (.long ky3), (.long ky2), (.long ky1), (.long ky3), (.int bb67)])) rfl (by rw [hml]; rfl) (lenOf pd_7 rfl) rfl (by show 2 * 0 + _ ≤ _; exact Nat.le_of_eq rfl) (hb hby at_325) (Nat.le_of_ble_eq_true rfl) (Nat.le_of_ble_eq_true rfl)
    obtain ⟨rfl, N77q, e77⟩ := hQ77
    have N77 := Fr.app N74 N77q
    refine OFin.go st77 ?_
    show OFin p e below _ (T77.setTop (mkF m 328 #[.val (.long y1), .second, .val (.long y2), .second, .val (.long z3), .second, .val (.long y4), .second, .val (.int mode), .val (.long (-18014398509481984 : Int64)), .second, .val (.long (-288230376151711744 : Int64)), .second, .val (.long (-1018231460777725123 : Int64)), .second, .val (.long ky1), .second, .val (.long ky2), .second, .val (.long ky3), .second, .val (.long ky4), .second, .val (.int wh), .val (.int (bi (¬ (wh = (0 : Int32))))), .val (.long rr), .second, .val (.ref b26), .val (.int bb63), .val (.int bb65), .val (.int bb67), .val (.int bb69)] [(.int (modelF ky3 ky1 ky2 ky3 (bi (¬ (wh = (0 : Int32)))) rr)), (.int bb67)]))
    have S78 : ∀ t, Steps p.tables e below (T77.setTop (mkF m 331 #[.val (.long y1), .second, .val (.long y2), .second, .val (.long z3), .second, .val (.long y4), .second, .val (.int mode), .val (.long (-18014398509481984 : Int64)), .second, .val (.long (-288230376151711744 : Int64)), .second, .val (.long (-1018231460777725123 : Int64)), .second, .val (.long ky1), .second, .val (.long ky2), .second, .val (.long ky3), .second, .val (.long ky4), .second, .val (.int wh), .val (.int (bi (¬ (wh = (0 : Int32))))), .val (.long rr), .second, .val (.ref b26), .val (.int bb63), .val (.int bb65), .val (.int bb67), .val (.int bb69)] [])) t → Steps p.tables e below (T77.setTop (mkF m 328 #[.val (.long y1), .second, .val (.long y2), .second, .val (.long z3), .second, .val (.long y4), .second, .val (.int mode), .val (.long (-18014398509481984 : Int64)), .second, .val (.long (-288230376151711744 : Int64)), .second, .val (.long (-1018231460777725123 : Int64)), .second, .val (.long ky1), .second, .val (.long ky2), .second, .val (.long ky3), .second, .val (.long ky4), .second, .val (.int wh), .val (.int (bi (¬ (wh = (0 : Int32))))), .val (.long rr), .second, .val (.ref b26), .val (.int bb63), .val (.int bb65), .val (.int bb67), .val (.int bb69)] [(.int (modelF ky3 ky1 ky2 ky3 (bi (¬ (wh = (0 : Int32)))) rr)), (.int bb67)])) t := by
      intro t k
      show Steps p.tables e below (T77.setTop (mkF m 328 #[.val (.long y1), .second, .val (.long y2), .second, .val (.long z3), .second, .val (.long y4), .second, .val (.int mode), .val (.long (-18014398509481984 : Int64)), .second, .val (.long (-288230376151711744 : Int64)), .second, .val (.long (-1018231460777725123 : Int64)), .second, .val (.long ky1), .second, .val (.long ky2), .second, .val (.long ky3), .second, .val (.long ky4), .second, .val (.int wh), .val (.int (bi (¬ (wh = (0 : Int32))))), .val (.long rr), .second, .val (.ref b26), .val (.int bb63), .val (.int bb65), .val (.int bb67), .val (.int bb69)] [(.int (modelF ky3 ky1 ky2 ky3 (bi (¬ (wh = (0 : Int32)))) rr)), (.int bb67)])) t
      refine XS.icmpNo X77.here hx rfl (hb hby at_328) rfl (teq (own_model _ _ _ _ _ _ h01_67 (own_fin0 (bi_f h36) hi_67))).2 ?_
      exact k
    refine OFin.go S78 ?_
    have S79 : ∀ t, Steps p.tables e below (T77.setTop (mkF m 345 #[.val (.long y1), .second, .val (.long y2), .second, .val (.long z3), .second, .val (.long y4), .second, .val (.int mode), .val (.long (-18014398509481984 : Int64)), .second, .val (.long (-288230376151711744 : Int64)), .second, .val (.long (-1018231460777725123 : Int64)), .second, .val (.long ky1), .second, .val (.long ky2), .second, .val (.long ky3), .second, .val (.long ky4), .second, .val (.int wh), .val (.int (bi (¬ (wh = (0 : Int32))))), .val (.long rr), .second, .val (.ref b26), .val (.int bb63), .val (.int bb65), .val (.int bb67), .val (.int bb69)] [(.long rr), (.int (bi (¬ (wh = (0 : Int32))))), (.long ky3), (.long ky2), (.long ky1), (.long ky4), (.int bb69)])) t → Steps p.tables e below (T77.setTop (mkF m 331 #[.val (.long y1), .second, .val (.long y2), .second, .val (.long z3), .second, .val (.long y4), .second, .val (.int mode), .val (.long (-18014398509481984 : Int64)), .second, .val (.long (-288230376151711744 : Int64)), .second, .val (.long (-1018231460777725123 : Int64)), .second, .val (.long ky1), .second, .val (.long ky2), .second, .val (.long ky3), .second, .val (.long ky4), .second, .val (.int wh), .val (.int (bi (¬ (wh = (0 : Int32))))), .val (.long rr), .second, .val (.ref b26), .val (.int bb63), .val (.int bb65), .val (.int bb67), .val (.int bb69)] [])) t := by
      intro t k
      show Steps p.tables e below (T77.setTop (mkF m 331 #[.val (.long y1), .second, .val (.long y2), .second, .val (.long z3), .second, .val (.long y4), .second, .val (.int mode), .val (.long (-18014398509481984 : Int64)), .second, .val (.long (-288230376151711744 : Int64)), .second, .val (.long (-1018231460777725123 : Int64)), .second, .val (.long ky1), .second, .val (.long ky2), .second, .val (.long ky3), .second, .val (.long ky4), .second, .val (.int wh), .val (.int (bi (¬ (wh = (0 : Int32))))), .val (.long rr), .second, .val (.ref b26), .val (.int bb63), .val (.int bb65), .val (.int bb67), .val (.int bb69)] [])) t
      refine XS.iload X77.here hx rfl (hb hby at_331) rfl ?_
      show Steps p.tables e below (T77.setTop (mkF m 333 #[.val (.long y1), .second, .val (.long y2), .second, .val (.long z3), .second, .val (.long y4), .second, .val (.int mode), .val (.long (-18014398509481984 : Int64)), .second, .val (.long (-288230376151711744 : Int64)), .second, .val (.long (-1018231460777725123 : Int64)), .second, .val (.long ky1), .second, .val (.long ky2), .second, .val (.long ky3), .second, .val (.long ky4), .second, .val (.int wh), .val (.int (bi (¬ (wh = (0 : Int32))))), .val (.long rr), .second, .val (.ref b26), .val (.int bb63), .val (.int bb65), .val (.int bb67), .val (.int bb69)] [(.int bb69)])) t
      refine XS.lload X77.here hx rfl (hb hby at_333) rfl ?_
      show Steps p.tables e below (T77.setTop (mkF m 335 #[.val (.long y1), .second, .val (.long y2), .second, .val (.long z3), .second, .val (.long y4), .second, .val (.int mode), .val (.long (-18014398509481984 : Int64)), .second, .val (.long (-288230376151711744 : Int64)), .second, .val (.long (-1018231460777725123 : Int64)), .second, .val (.long ky1), .second, .val (.long ky2), .second, .val (.long ky3), .second, .val (.long ky4), .second, .val (.int wh), .val (.int (bi (¬ (wh = (0 : Int32))))), .val (.long rr), .second, .val (.ref b26), .val (.int bb63), .val (.int bb65), .val (.int bb67), .val (.int bb69)] [(.long ky4), (.int bb69)])) t
      refine XS.lload X77.here hx rfl (hb hby at_335) rfl ?_
      show Steps p.tables e below (T77.setTop (mkF m 337 #[.val (.long y1), .second, .val (.long y2), .second, .val (.long z3), .second, .val (.long y4), .second, .val (.int mode), .val (.long (-18014398509481984 : Int64)), .second, .val (.long (-288230376151711744 : Int64)), .second, .val (.long (-1018231460777725123 : Int64)), .second, .val (.long ky1), .second, .val (.long ky2), .second, .val (.long ky3), .second, .val (.long ky4), .second, .val (.int wh), .val (.int (bi (¬ (wh = (0 : Int32))))), .val (.long rr), .second, .val (.ref b26), .val (.int bb63), .val (.int bb65), .val (.int bb67), .val (.int bb69)] [(.long ky1), (.long ky4), (.int bb69)])) t
      refine XS.lload X77.here hx rfl (hb hby at_337) rfl ?_
      show Steps p.tables e below (T77.setTop (mkF m 339 #[.val (.long y1), .second, .val (.long y2), .second, .val (.long z3), .second, .val (.long y4), .second, .val (.int mode), .val (.long (-18014398509481984 : Int64)), .second, .val (.long (-288230376151711744 : Int64)), .second, .val (.long (-1018231460777725123 : Int64)), .second, .val (.long ky1), .second, .val (.long ky2), .second, .val (.long ky3), .second, .val (.long ky4), .second, .val (.int wh), .val (.int (bi (¬ (wh = (0 : Int32))))), .val (.long rr), .second, .val (.ref b26), .val (.int bb63), .val (.int bb65), .val (.int bb67), .val (.int bb69)] [(.long ky2), (.long ky1), (.long ky4), (.int bb69)])) t
      refine XS.lload X77.here hx rfl (hb hby at_339) rfl ?_
      show Steps p.tables e below (T77.setTop (mkF m 341 #[.val (.long y1), .second, .val (.long y2), .second, .val (.long z3), .second, .val (.long y4), .second, .val (.int mode), .val (.long (-18014398509481984 : Int64)), .second, .val (.long (-288230376151711744 : Int64)), .second, .val (.long (-1018231460777725123 : Int64)), .second, .val (.long ky1), .second, .val (.long ky2), .second, .val (.long ky3), .second, .val (.long ky4), .second, .val (.int wh), .val (.int (bi (¬ (wh = (0 : Int32))))), .val (.long rr), .second, .val (.ref b26), .val (.int bb63), .val (.int bb65), .val (.int bb67), .val (.int bb69)] [(.long ky3), (.long ky2), (.long ky1), (.long ky4), (.int bb69)])) t
      refine XS.iload X77.here hx rfl (hb hby at_341) rfl ?_
      show Steps p.tables e below (T77.setTop (mkF m 343 #[.val (.long y1), .second, .val (.long y2), .second, .val (.long z3), .second, .val (.long y4), .second, .val (.int mode), .val (.long (-18014398509481984 : Int64)), .second, .val (.long (-288230376151711744 : Int64)), .second, .val (.long (-1018231460777725123 : Int64)), .second, .val (.long ky1), .second, .val (.long ky2), .second, .val (.long ky3), .second, .val (.long ky4), .second, .val (.int wh), .val (.int (bi (¬ (wh = (0 : Int32))))), .val (.long rr), .second, .val (.ref b26), .val (.int bb63), .val (.int bb65), .val (.int bb67), .val (.int bb69)] [(.int (bi (¬ (wh = (0 : Int32))))), (.long ky3), (.long ky2), (.long ky1), (.long ky4), (.int bb69)])) t
      refine XS.lload X77.here hx rfl (hb hby at_343) rfl ?_
      exact k
    refine OFin.go S79 ?_
    obtain ⟨_, T80, Lc80, X80, hQ80, st80⟩ := callQ X77 hx hZ (y := (⟨"com/example/clockwrap/clockwrap/store/LongTableContainsPinLaw", "model", "(JJJJZJ)Z"⟩ : MethodName)) hown (hw _ (List.mem_of_getElem? (i := 78) rfl)) (hw _ (List.mem_of_getElem? (i := 79) rfl)) (hw _ (List.mem_of_getElem? (i := 80) rfl)) (hw _ (List.mem_of_getElem? (i := 81) rfl)) (by decide) (argsL := [(.long ky4), (.long ky1), (.long ky2), (.long ky3), (.int (bi (¬ (wh = (0 : Int32))))), (.long rr)]) (rest := [(.int bb69)]) (rm13 l Z a0 hw [] ky4 ky1 ky2 ky3 (bi (¬ (wh = (0 : Int32)))) rr T34.heap n0 Z34) (W := 1) (by decide) (by decide) e77 (g := (mkF m 345 #[.val (.long y1), .second, .val (.long y2), .second, .val (.long z3), .second, .val (.long y4), .second, .val (.int mode), .val (.long (-18014398509481984 : Int64)), .second, .val (.long (-288230376151711744 : Int64)), .second, .val (.long (-1018231460777725123 : Int64)), .second, .val (.long ky1), .second, .val (.long ky2), .second, .val (.long ky3), .second, .val (.long ky4), .second, .val (.int wh), .val (.int (bi (¬ (wh = (0 : Int32))))), .val (.long rr), .second, .val (.ref b26), .val (.int bb63), .val (.int bb65), .val (.int bb67), .val (.int bb69)] [(.long rr), (.int (bi (¬ (wh = (0 : Int32))))), (.long ky3), (.long ky2), (.long ky1), (.long ky4), (.int bb69)])) rfl (by rw [hml]; rfl) (lenOf pd_7 rfl) rfl (by show 2 * 0 + _ ≤ _; exact Nat.le_of_eq rfl) (hb hby at_345) (Nat.le_of_ble_eq_true rfl) (Nat.le_of_ble_eq_true rfl)
    obtain ⟨rfl, N80q, e80⟩ := hQ80
    have N80 := Fr.app N77 N80q
    refine OFin.go st80 ?_
    show OFin p e below _ (T80.setTop (mkF m 348 #[.val (.long y1), .second, .val (.long y2), .second, .val (.long z3), .second, .val (.long y4), .second, .val (.int mode), .val (.long (-18014398509481984 : Int64)), .second, .val (.long (-288230376151711744 : Int64)), .second, .val (.long (-1018231460777725123 : Int64)), .second, .val (.long ky1), .second, .val (.long ky2), .second, .val (.long ky3), .second, .val (.long ky4), .second, .val (.int wh), .val (.int (bi (¬ (wh = (0 : Int32))))), .val (.long rr), .second, .val (.ref b26), .val (.int bb63), .val (.int bb65), .val (.int bb67), .val (.int bb69)] [(.int (modelF ky4 ky1 ky2 ky3 (bi (¬ (wh = (0 : Int32)))) rr)), (.int bb69)]))
    have S81 : ∀ t, Steps p.tables e below (T80.setTop (mkF m 351 #[.val (.long y1), .second, .val (.long y2), .second, .val (.long z3), .second, .val (.long y4), .second, .val (.int mode), .val (.long (-18014398509481984 : Int64)), .second, .val (.long (-288230376151711744 : Int64)), .second, .val (.long (-1018231460777725123 : Int64)), .second, .val (.long ky1), .second, .val (.long ky2), .second, .val (.long ky3), .second, .val (.long ky4), .second, .val (.int wh), .val (.int (bi (¬ (wh = (0 : Int32))))), .val (.long rr), .second, .val (.ref b26), .val (.int bb63), .val (.int bb65), .val (.int bb67), .val (.int bb69)] [])) t → Steps p.tables e below (T80.setTop (mkF m 348 #[.val (.long y1), .second, .val (.long y2), .second, .val (.long z3), .second, .val (.long y4), .second, .val (.int mode), .val (.long (-18014398509481984 : Int64)), .second, .val (.long (-288230376151711744 : Int64)), .second, .val (.long (-1018231460777725123 : Int64)), .second, .val (.long ky1), .second, .val (.long ky2), .second, .val (.long ky3), .second, .val (.long ky4), .second, .val (.int wh), .val (.int (bi (¬ (wh = (0 : Int32))))), .val (.long rr), .second, .val (.ref b26), .val (.int bb63), .val (.int bb65), .val (.int bb67), .val (.int bb69)] [(.int (modelF ky4 ky1 ky2 ky3 (bi (¬ (wh = (0 : Int32)))) rr)), (.int bb69)])) t := by
      intro t k
      show Steps p.tables e below (T80.setTop (mkF m 348 #[.val (.long y1), .second, .val (.long y2), .second, .val (.long z3), .second, .val (.long y4), .second, .val (.int mode), .val (.long (-18014398509481984 : Int64)), .second, .val (.long (-288230376151711744 : Int64)), .second, .val (.long (-1018231460777725123 : Int64)), .second, .val (.long ky1), .second, .val (.long ky2), .second, .val (.long ky3), .second, .val (.long ky4), .second, .val (.int wh), .val (.int (bi (¬ (wh = (0 : Int32))))), .val (.long rr), .second, .val (.ref b26), .val (.int bb63), .val (.int bb65), .val (.int bb67), .val (.int bb69)] [(.int (modelF ky4 ky1 ky2 ky3 (bi (¬ (wh = (0 : Int32)))) rr)), (.int bb69)])) t
      refine XS.icmpNo X80.here hx rfl (hb hby at_348) rfl (teq (own_model _ _ _ _ _ _ h01_69 (own_fin0 (bi_f h36) hi_69))).2 ?_
      exact k
    refine OFin.go S81 ?_
    have S82 : ∀ t, Steps p.tables e below (T80.setTop (mkF m 356 #[.val (.long y1), .second, .val (.long y2), .second, .val (.long z3), .second, .val (.long y4), .second, .val (.int mode), .val (.long (-18014398509481984 : Int64)), .second, .val (.long (-288230376151711744 : Int64)), .second, .val (.long (-1018231460777725123 : Int64)), .second, .val (.long ky1), .second, .val (.long ky2), .second, .val (.long ky3), .second, .val (.long ky4), .second, .val (.int wh), .val (.int (bi (¬ (wh = (0 : Int32))))), .val (.long rr), .second, .val (.ref b26), .val (.int bb63), .val (.int bb65), .val (.int bb67), .val (.int bb69)] [(.int (1 : Int32))])) t → Steps p.tables e below (T80.setTop (mkF m 351 #[.val (.long y1), .second, .val (.long y2), .second, .val (.long z3), .second, .val (.long y4), .second, .val (.int mode), .val (.long (-18014398509481984 : Int64)), .second, .val (.long (-288230376151711744 : Int64)), .second, .val (.long (-1018231460777725123 : Int64)), .second, .val (.long ky1), .second, .val (.long ky2), .second, .val (.long ky3), .second, .val (.long ky4), .second, .val (.int wh), .val (.int (bi (¬ (wh = (0 : Int32))))), .val (.long rr), .second, .val (.ref b26), .val (.int bb63), .val (.int bb65), .val (.int bb67), .val (.int bb69)] [])) t := by
      intro t k
      show Steps p.tables e below (T80.setTop (mkF m 351 #[.val (.long y1), .second, .val (.long y2), .second, .val (.long z3), .second, .val (.long y4), .second, .val (.int mode), .val (.long (-18014398509481984 : Int64)), .second, .val (.long (-288230376151711744 : Int64)), .second, .val (.long (-1018231460777725123 : Int64)), .second, .val (.long ky1), .second, .val (.long ky2), .second, .val (.long ky3), .second, .val (.long ky4), .second, .val (.int wh), .val (.int (bi (¬ (wh = (0 : Int32))))), .val (.long rr), .second, .val (.ref b26), .val (.int bb63), .val (.int bb65), .val (.int bb67), .val (.int bb69)] [])) t
      refine XS.iconst X80.here hx rfl (hb hby at_351) ?_
      show Steps p.tables e below (T80.setTop (mkF m 352 #[.val (.long y1), .second, .val (.long y2), .second, .val (.long z3), .second, .val (.long y4), .second, .val (.int mode), .val (.long (-18014398509481984 : Int64)), .second, .val (.long (-288230376151711744 : Int64)), .second, .val (.long (-1018231460777725123 : Int64)), .second, .val (.long ky1), .second, .val (.long ky2), .second, .val (.long ky3), .second, .val (.long ky4), .second, .val (.int wh), .val (.int (bi (¬ (wh = (0 : Int32))))), .val (.long rr), .second, .val (.ref b26), .val (.int bb63), .val (.int bb65), .val (.int bb67), .val (.int bb69)] [(.int (1 : Int32))])) t
      refine XS.goto X80.here hx rfl (pc0 := 352) (pc' := 356) rfl (hb hby at_352) (by decide) (by decide) ?_
      exact k
    refine OFin.go S82 ?_
    exact finZ X80 hx Bd.notSynchronized (t := .boolean) Bd.returns (by simp) (hb hby at_356) rfl (by decide) (by decide) (⟨congrArg (fun z => some (Value.int z)) (rfl : (1 : Int32) = (1 : Int32)), N80⟩)
set_option maxRecDepth 65536 in
set_option maxHeartbeats 40000000 in
theorem comes_1 {Post : Tables → Env → Array Value → State → Outcome → State → Prop} (hpost : ∀ tb e args s v u, (limb_1_1.after args s (.returned v) u = true ∧ limb_1_2.after args s (.returned v) u = true ∧ True) → FrameEnd s (.returned v) u (Jvm.fieldLocs frame_1_writes args s ++ Jvm.arrayLocs frame_1_arrays args s ++ Jvm.staticLocs frame_1_statics s) 272 2816 → Post tb e args s (.returned v) u) :
    ArmFor flags0 classFile x code maxLocals ret World_1 tables_1 room_1 Calls_1 rest_1 Pre_1 Post := by
  intro l hfl _ _ p e ha hc hk s m args below hf hA hF happ hP
  obtain ⟨hcalls, hrest, hpre⟩ := hP
  obtain ⟨-, -, -, hnamed, -, -, -, hat⟩ := (Spec.applies_iff hf).mp happ
  obtain ⟨hg, hn⟩ := and_e (Cond.before_iff.mp (show (Jvm.Cond.and given_1 narrow_1).before args s = true from hpre))
  obtain ⟨gg2, gg3⟩ := and_e hg
  obtain ⟨gg4, gg5⟩ := and_e gg3
  obtain ⟨gg6, gg7⟩ := and_e gg5
  obtain ⟨gg8, gg9⟩ := and_e gg7
  obtain ⟨gg10, gg11⟩ := and_e gg9
  obtain ⟨w0, w1, w2, w3, w4, rfl⟩ : ∃ w0 w1 w2 w3 w4 : Value, args = #[w0, w1, w2, w3, w4] := by
    have hs : args.size = 5 := by simpa [Cond.value, given_1] using gg2
    obtain ⟨L⟩ := args
    match L, hs with
    | [w0, w1, w2, w3, w4], _ => exact ⟨w0, w1, w2, w3, w4, rfl⟩
  have hw := fun d (hd : d ∈ tables_1) => atoms_spec (ws := Jvm.Cond.code x code maxLocals ret :: tables_1) hat d (List.mem_cons_of_mem _ hd)
  have hfit : Fit s := fun {y c} hc i hi => by
    obtain ⟨ha, rfl⟩ := Array.getElem?_eq_some_iff.mp hc
    have q := List.all_eq_true.mp ((Array.all_eq_true_iff_forall_mem.mp hF) _ (Array.getElem_mem ha)) i (List.mem_range.mpr hi)
    simpa [Array.getElem?_eq_getElem hi] using q
  obtain ⟨i0, ei0⟩ := isL_v gg4
  obtain rfl : w0 = (.long i0) := Option.some.inj ei0
  obtain ⟨i1, ei1⟩ := isL_v gg6
  obtain rfl : w1 = (.long i1) := Option.some.inj ei1
  obtain ⟨i2, ei2⟩ := isL_v gg8
  obtain rfl : w2 = (.long i2) := Option.some.inj ei2
  obtain ⟨i3, ei3⟩ := isL_v gg10
  obtain rfl : w3 = (.long i3) := Option.some.inj ei3
  obtain ⟨i4, ei4⟩ := is_v gg11
  obtain rfl : w4 = (.int i4) := Option.some.inj ei4
  obtain ⟨n, o, h1, h2, h3, _, L, rfl, ⟨rfl, N⟩, hq⟩ := rm0 l s _ hw tables_1 i0 i1 i2 i3 i4 s.heap s.heap.size (Nat.le_refl _)  p e ha hc hk s m _ below hf ((Spec.applies_iff_loose hf).mp happ).1 ⟨rfl, State.Warmed39.refl s, rfl⟩ trivial
  refine ⟨n, _, h1, h2, h3, hpost _ _ _ _ _ _ ⟨Cond.after_iff.mpr rfl, Cond.after_iff.mpr (eq_i res_at (Term.int_eval (1)) rfl), trivial⟩ ⟨hq.1, hq.2.1, (hq.2.2.sift fun y hy => Or.inr (N y hy)).mono (by decide) (by decide)⟩⟩
theorem main_1_1 : Claimed_1_1 := comes_1 fun _ _ _ _ _ _ h hF => ⟨h.1, hF⟩
theorem main_1_2 : Claimed_1_2 := comes_1 fun _ _ _ _ _ _ h hF => ⟨h.2.1, hF⟩
end Jvm.Pilot.@@N@@
namespace Jvm.Pilot.@@N@@
open Jvm Jvm.ClassFile Sem Op Lib Jvm.Free Jvm.Stand Jvm.Pilot.@@N@@.Jvm.D
/-! MADE BY PROGRAM (witnessworld.py) out of the Statement's table words and the real class files: 18 classes; the members and pool entries that the words name. The judged class is class 1, her method 1. -/
namespace start1
open Jvm.ClassFile
def u (s : String) : CpInfo := .utf8 (stringToUtf16 s)
/-- a pool by its gaps: so many unusable entries, then the entry; so many at the end -/
def gap : Nat → List CpInfo → List CpInfo
  | 0, r => r
  | n + 1, r => .unusable :: gap n r
def poolList (es : List (Nat × CpInfo)) (last : Nat) : List CpInfo := es.foldr (fun e r => gap e.1 (e.2 :: r)) (gap last [])
def pool (es : List (Nat × CpInfo)) (last : Nat) : Array CpInfo := ⟨poolList es last⟩
def fileOf (pool : Array CpInfo) (this : Nat) (attrs : Array Attribute := #[]) (ms : Array MethodInfo := #[]) (fl : Nat := 33) (sup : Nat := 0) (ifs : Array Nat := #[]) (fds : Array FieldInfo := #[]) : ClassFile where
  minorVersion := 0
  majorVersion := 65
  constantPool := pool
  accessFlags := fl
  thisClass := this
  superClass := sup
  interfaces := ifs
  fields := fds
  methods := ms
  attributes := attrs
def plain (name : String) (sup : Option ClassId) : Class where
  name := name
  kind := .ordinary
  loader := none
  accessFlags := 33
  super := sup
  interfaces := #[]
  cf := none
  fields := #[]
  methods := #[]
  instanceTypes := #[]
  staticTypes := #[]
  resolved := #[]
  callSites := []
  init := .initialized
  statics := none
  mirror := none

def pool0 : Array CpInfo := pool [(5, u "<init>"), (0, u "()V"), (1, .class_ 10), (1, u "java/lang/Object")] 113

def k0c0 : Code := { maxStack := 0, maxLocals := 1, code := object_method_1_code, exceptionTable := #[], attributes := #[] }
def k0m0 : Method := { name := "<init>", desc := "()V", sig := { parameters := [], returnType := none }, accessFlags := 1, code := some k0c0 }
/-- java/lang/Object -/
def k0 : Class := { plain "java/lang/Object" none with
  accessFlags := 33
  interfaces := #[]
  cf := some (fileOf pool0 8 #[] #[{ accessFlags := 1, nameIndex := 5, descriptorIndex := 6, attributes := #[] }] 33 0 #[] #[])
  fields := #[]
  methods := #[k0m0]
  instanceTypes := #[]
  staticTypes := #[]
  resolved := Array.replicate 124 none
  statics := none }

def pool1 : Array CpInfo := pool [(2, .class_ 4), (0, .nameAndType 5 6), (0, u "java/lang/Object"), (0, u "<init>"), (0, u "()V"), (0, .long 18428729675200069632), (1, .long 18158513697557839872), (1, .long 18446744073709551615), (1, .long 17428512612931826493), (1, .class_ 16), (0, u "com/example/clockwrap/clockwrap/store/LongTable"), (0, .methodref 15 3), (0, .methodref 15 19), (0, .nameAndType 20 21), (0, u "add"), (0, u "(J)Z"), (0, .methodref 15 23), (0, .nameAndType 24 21), (0, u "remove"), (0, .methodref 15 26), (0, .nameAndType 27 21), (0, u "contains"), (0, .methodref 29 30), (0, .class_ 31), (0, .nameAndType 32 33), (0, u "com/example/clockwrap/clockwrap/store/LongTableContainsPinLaw"), (0, u "model"), (0, u "(JJJJZJ)Z"), (2, u "law"), (0, u "(JJJJI)Z")] 3

def k1m0 : Method := { name := "<init>", desc := "()V", sig := { parameters := [], returnType := none }, accessFlags := 1, code := none }
def k1c1 : Code := { maxStack := 12, maxLocals := 32, code := code, exceptionTable := #[], attributes := #[] }
def k1m1 : Method := { name := "law", desc := "(JJJJI)Z", sig := { parameters := [.long, .long, .long, .long, .int], returnType := some .boolean }, accessFlags := 9, code := some k1c1 }
def k1c2 : Code := { maxStack := 4, maxLocals := 12, code := method_3_code, exceptionTable := #[], attributes := #[] }
def k1m2 : Method := { name := "model", desc := "(JJJJZJ)Z", sig := { parameters := [.long, .long, .long, .long, .boolean, .long], returnType := some .boolean }, accessFlags := 10, code := some k1c2 }
/-- com/example/clockwrap/clockwrap/store/LongTableContainsPinLaw -/
def k1 : Class := { plain "com/example/clockwrap/clockwrap/store/LongTableContainsPinLaw" (some 0) with
  accessFlags := 49
  interfaces := #[]
  cf := some (fileOf pool1 29 #[] #[{ accessFlags := 1, nameIndex := 5, descriptorIndex := 6, attributes := #[] }, { accessFlags := 9, nameIndex := 36, descriptorIndex := 37, attributes := #[] }, { accessFlags := 10, nameIndex := 32, descriptorIndex := 33, attributes := #[] }] 49 2 #[] #[])
  fields := #[]
  methods := #[k1m0, k1m1, k1m2]
  instanceTypes := #[]
  staticTypes := #[]
  resolved := Array.replicate 41 none
  statics := none }

def pool2 : Array CpInfo := pool [(1, .class_ 2), (0, u "com/example/clockwrap/clockwrap/store/LongTable"), (0, .methodref 4 5), (0, .class_ 6), (0, .nameAndType 7 8), (0, u "java/lang/Object"), (0, u "<init>"), (0, u "()V"), (0, .class_ 10), (0, u "com/example/clockwrap/clockwrap/store/LongTable$Part"), (0, .fieldref 1 12), (0, .nameAndType 13 14), (0, u "parts"), (0, u "[Lcom/example/clockwrap/clockwrap/store/LongTable$Part;"), (0, .methodref 9 5), (0, .fieldref 1 17), (0, .nameAndType 18 19), (0, u "size"), (0, u "I"), (0, .fieldref 1 21), (0, .nameAndType 22 23), (0, u "hasZero"), (0, u "Z"), (0, .methodref 1 25), (0, .nameAndType 26 27), (0, u "part"), (0, u "(J)Lcom/example/clockwrap/clockwrap/store/LongTable$Part;"), (0, .methodref 9 29), (0, .nameAndType 30 31), (0, u "contains"), (0, u "(J)Z"), (0, .methodref 9 33), (0, .nameAndType 34 31), (0, u "add"), (0, .fieldref 1 36), (0, .nameAndType 37 38), (0, u "zeroValue"), (0, u "J"), (8, .methodref 9 48), (0, .nameAndType 49 31), (0, u "remove"), (0, .long 11400714819323198485), (3, u "SPREAD"), (1, u "PART_BITS"), (1, u "PARTS")] 11

def k2c0 : Code := { maxStack := 4, maxLocals := 2, code := prog_32_method_1_code, exceptionTable := #[], attributes := #[] }
def k2m0 : Method := { name := "<init>", desc := "()V", sig := { parameters := [], returnType := none }, accessFlags := 0, code := some k2c0 }
def k2c1 : Code := { maxStack := 4, maxLocals := 3, code := prog_32_method_3_code, exceptionTable := #[], attributes := #[] }
def k2m1 : Method := { name := "contains", desc := "(J)Z", sig := { parameters := [.long], returnType := some .boolean }, accessFlags := 0, code := some k2c1 }
def k2c2 : Code := { maxStack := 4, maxLocals := 4, code := prog_32_method_4_code, exceptionTable := #[], attributes := #[] }
def k2m2 : Method := { name := "add", desc := "(J)Z", sig := { parameters := [.long], returnType := some .boolean }, accessFlags := 0, code := some k2c2 }
def k2c3 : Code := { maxStack := 4, maxLocals := 4, code := prog_32_method_7_code, exceptionTable := #[], attributes := #[] }
def k2m3 : Method := { name := "remove", desc := "(J)Z", sig := { parameters := [.long], returnType := some .boolean }, accessFlags := 0, code := some k2c3 }
def k2c4 : Code := { maxStack := 5, maxLocals := 3, code := prog_32_method_8_code, exceptionTable := #[], attributes := #[] }
def k2m4 : Method := { name := "part", desc := "(J)Lcom/example/clockwrap/clockwrap/store/LongTable$Part;", sig := { parameters := [.long], returnType := some (.object "com/example/clockwrap/clockwrap/store/LongTable$Part") }, accessFlags := 2, code := some k2c4 }
/-- com/example/clockwrap/clockwrap/store/LongTable -/
def k2 : Class := { plain "com/example/clockwrap/clockwrap/store/LongTable" (some 0) with
  accessFlags := 48
  interfaces := #[]
  cf := some (fileOf pool2 1 #[.nestMembers #[9]] #[{ accessFlags := 0, nameIndex := 7, descriptorIndex := 8, attributes := #[] }, { accessFlags := 0, nameIndex := 30, descriptorIndex := 31, attributes := #[] }, { accessFlags := 0, nameIndex := 34, descriptorIndex := 31, attributes := #[] }, { accessFlags := 0, nameIndex := 49, descriptorIndex := 31, attributes := #[] }, { accessFlags := 2, nameIndex := 26, descriptorIndex := 27, attributes := #[] }] 48 4 #[] #[{ accessFlags := 26, nameIndex := 54, descriptorIndex := 38, attributes := #[] }, { accessFlags := 26, nameIndex := 56, descriptorIndex := 19, attributes := #[] }, { accessFlags := 26, nameIndex := 58, descriptorIndex := 19, attributes := #[] }, { accessFlags := 18, nameIndex := 13, descriptorIndex := 14, attributes := #[] }, { accessFlags := 2, nameIndex := 18, descriptorIndex := 19, attributes := #[] }, { accessFlags := 2, nameIndex := 22, descriptorIndex := 23, attributes := #[] }, { accessFlags := 2, nameIndex := 37, descriptorIndex := 38, attributes := #[] }])
  fields := #[{ name := "SPREAD", type := .long, accessFlags := 26, slot := 0, constantValue := 0 }, { name := "PART_BITS", type := .int, accessFlags := 26, slot := 1, constantValue := 0 }, { name := "PARTS", type := .int, accessFlags := 26, slot := 2, constantValue := 0 }, { name := "parts", type := (.array (.object "com/example/clockwrap/clockwrap/store/LongTable$Part")), accessFlags := 18, slot := 0, constantValue := 0 }, { name := "size", type := .int, accessFlags := 2, slot := 1, constantValue := 0 }, { name := "hasZero", type := .boolean, accessFlags := 2, slot := 2, constantValue := 0 }, { name := "zeroValue", type := .long, accessFlags := 2, slot := 3, constantValue := 0 }]
  methods := #[k2m0, k2m1, k2m2, k2m3, k2m4]
  instanceTypes := #[(.array (.object "com/example/clockwrap/clockwrap/store/LongTable$Part")), .int, .boolean, .long]
  staticTypes := #[.long, .int, .int]
  resolved := Array.replicate 9 none ++ #[some (.cls 3)] ++ Array.replicate 5 none ++ #[some (.method { cls := 3, idx := 0 })] ++ Array.replicate 54 none
  statics := none }

def pool3 : Array CpInfo := pool [(1, .class_ 2), (0, u "com/example/clockwrap/clockwrap/store/LongTable"), (0, .methodref 4 5), (0, .class_ 6), (0, .nameAndType 7 8), (0, u "java/lang/Object"), (0, u "<init>"), (0, u "()V"), (0, .class_ 10), (0, u "com/example/clockwrap/clockwrap/store/LongTable$Part"), (0, .fieldref 9 12), (0, .nameAndType 13 14), (0, u "keys"), (0, u "[J"), (2, .methodref 18 19), (0, .class_ 20), (0, .nameAndType 21 22), (0, u "java/lang/Integer"), (0, u "numberOfTrailingZeros"), (0, u "(I)I"), (0, .fieldref 9 24), (0, .nameAndType 25 26), (0, u "shift"), (0, u "I"), (0, .methodref 9 28), (0, .nameAndType 29 30), (0, u "slot"), (0, u "(J)I"), (0, .methodref 9 32), (0, .nameAndType 33 34), (0, u "place"), (0, u "(IJJ)V"), (0, .fieldref 9 36), (0, .nameAndType 37 14), (0, u "values"), (0, .methodref 9 39), (0, .nameAndType 40 41), (0, u "free"), (0, u "(I)V"), (0, .fieldref 9 43), (0, .nameAndType 44 26), (0, u "taken"), (3, .methodref 9 49), (0, .nameAndType 50 30), (0, u "home"), (0, .long 11400714819323198485), (1, u "FIRST_SLOTS"), (4, u "contains"), (0, u "(J)Z"), (1, u "add"), (4, u "remove")] 6

def k3c0 : Code := { maxStack := 3, maxLocals := 1, code := prog_33_method_1_code, exceptionTable := #[], attributes := #[] }
def k3m0 : Method := { name := "<init>", desc := "()V", sig := { parameters := [], returnType := none }, accessFlags := 2, code := some k3c0 }
def k3c1 : Code := { maxStack := 4, maxLocals := 3, code := prog_33_method_2_code, exceptionTable := #[], attributes := #[] }
def k3m1 : Method := { name := "contains", desc := "(J)Z", sig := { parameters := [.long], returnType := some .boolean }, accessFlags := 0, code := some k3c1 }
def k3c2 : Code := { maxStack := 6, maxLocals := 5, code := prog_33_method_3_code, exceptionTable := #[], attributes := #[] }
def k3m2 : Method := { name := "add", desc := "(J)Z", sig := { parameters := [.long], returnType := some .boolean }, accessFlags := 0, code := some k3c2 }
def k3c3 : Code := { maxStack := 4, maxLocals := 5, code := prog_33_method_6_code, exceptionTable := #[], attributes := #[] }
def k3m3 : Method := { name := "remove", desc := "(J)Z", sig := { parameters := [.long], returnType := some .boolean }, accessFlags := 0, code := some k3c3 }
def k3c4 : Code := { maxStack := 4, maxLocals := 6, code := prog_33_method_7_code, exceptionTable := #[], attributes := #[] }
def k3m4 : Method := { name := "place", desc := "(IJJ)V", sig := { parameters := [.int, .long, .long], returnType := none }, accessFlags := 2, code := some k3c4 }
def k3c5 : Code := { maxStack := 4, maxLocals := 5, code := prog_33_method_8_code, exceptionTable := #[], attributes := #[] }
def k3m5 : Method := { name := "slot", desc := "(J)I", sig := { parameters := [.long], returnType := some .int }, accessFlags := 2, code := some k3c5 }
def k3c6 : Code := { maxStack := 4, maxLocals := 3, code := prog_33_method_9_code, exceptionTable := #[], attributes := #[] }
def k3m6 : Method := { name := "home", desc := "(J)I", sig := { parameters := [.long], returnType := some .int }, accessFlags := 2, code := some k3c6 }
def k3c7 : Code := { maxStack := 4, maxLocals := 5, code := prog_33_method_10_code, exceptionTable := #[], attributes := #[] }
def k3m7 : Method := { name := "free", desc := "(I)V", sig := { parameters := [.int], returnType := none }, accessFlags := 2, code := some k3c7 }
/-- com/example/clockwrap/clockwrap/store/LongTable$Part -/
def k3 : Class := { plain "com/example/clockwrap/clockwrap/store/LongTable$Part" (some 0) with
  accessFlags := 48
  interfaces := #[]
  cf := some (fileOf pool3 9 #[.nestHost 1] #[{ accessFlags := 2, nameIndex := 7, descriptorIndex := 8, attributes := #[] }, { accessFlags := 0, nameIndex := 58, descriptorIndex := 59, attributes := #[] }, { accessFlags := 0, nameIndex := 61, descriptorIndex := 59, attributes := #[] }, { accessFlags := 0, nameIndex := 66, descriptorIndex := 59, attributes := #[] }, { accessFlags := 2, nameIndex := 33, descriptorIndex := 34, attributes := #[] }, { accessFlags := 2, nameIndex := 29, descriptorIndex := 30, attributes := #[] }, { accessFlags := 2, nameIndex := 50, descriptorIndex := 30, attributes := #[] }, { accessFlags := 2, nameIndex := 40, descriptorIndex := 41, attributes := #[] }] 48 4 #[] #[{ accessFlags := 26, nameIndex := 53, descriptorIndex := 26, attributes := #[] }, { accessFlags := 2, nameIndex := 13, descriptorIndex := 14, attributes := #[] }, { accessFlags := 2, nameIndex := 37, descriptorIndex := 14, attributes := #[] }, { accessFlags := 2, nameIndex := 25, descriptorIndex := 26, attributes := #[] }, { accessFlags := 2, nameIndex := 44, descriptorIndex := 26, attributes := #[] }])
  fields := #[{ name := "FIRST_SLOTS", type := .int, accessFlags := 26, slot := 0, constantValue := 0 }, { name := "keys", type := (.array .long), accessFlags := 2, slot := 0, constantValue := 0 }, { name := "values", type := (.array .long), accessFlags := 2, slot := 1, constantValue := 0 }, { name := "shift", type := .int, accessFlags := 2, slot := 2, constantValue := 0 }, { name := "taken", type := .int, accessFlags := 2, slot := 3, constantValue := 0 }]
  methods := #[k3m0, k3m1, k3m2, k3m3, k3m4, k3m5, k3m6, k3m7]
  instanceTypes := #[(.array .long), (.array .long), .int, .int]
  staticTypes := #[.int]
  resolved := Array.replicate 73 none
  statics := none }

def pool4 : Array CpInfo := pool [(1, .class_ 2), (0, u "java/io/Serializable"), (0, .class_ 4), (0, u "java/lang/Object")] 2

/-- java/io/Serializable -/
def k4 : Class := { plain "java/io/Serializable" (some 0) with
  accessFlags := 1537
  interfaces := #[]
  cf := some (fileOf pool4 1 #[] #[] 1537 3 #[] #[])
  fields := #[]
  methods := #[]
  instanceTypes := #[]
  staticTypes := #[]
  resolved := Array.replicate 7 none
  statics := none }

def pool5 : Array CpInfo := pool [(2, .class_ 4), (1, u "java/lang/Object"), (0, u "<init>"), (0, u "()V"), (1, .class_ 10), (1, u "java/lang/Number"), (2, .class_ 14), (0, u "java/io/Serializable"), (0, u "serialVersionUID"), (0, u "J")] 20

def k5m0 : Method := { name := "<init>", desc := "()V", sig := { parameters := [], returnType := none }, accessFlags := 1, code := none }
/-- java/lang/Number -/
def k5 : Class := { plain "java/lang/Number" (some 0) with
  accessFlags := 1057
  interfaces := #[4]
  cf := some (fileOf pool5 8 #[] #[{ accessFlags := 1, nameIndex := 5, descriptorIndex := 6, attributes := #[] }] 1057 2 #[13] #[{ accessFlags := 26, nameIndex := 15, descriptorIndex := 16, attributes := #[] }])
  fields := #[{ name := "serialVersionUID", type := .long, accessFlags := 26, slot := 0, constantValue := 0 }]
  methods := #[k5m0]
  instanceTypes := #[]
  staticTypes := #[.long]
  resolved := Array.replicate 37 none
  statics := none }

def pool6 : Array CpInfo := pool [(1, .class_ 2), (0, u "java/lang/Comparable"), (0, .class_ 4), (0, u "java/lang/Object")] 7

/-- java/lang/Comparable -/
def k6 : Class := { plain "java/lang/Comparable" (some 0) with
  accessFlags := 1537
  interfaces := #[]
  cf := some (fileOf pool6 1 #[] #[] 1537 3 #[] #[])
  fields := #[]
  methods := #[]
  instanceTypes := #[]
  staticTypes := #[]
  resolved := Array.replicate 12 none
  statics := none }

def pool7 : Array CpInfo := pool [(1, .class_ 2), (0, u "java/lang/constant/Constable"), (0, .class_ 4), (0, u "java/lang/Object")] 6

/-- java/lang/constant/Constable -/
def k7 : Class := { plain "java/lang/constant/Constable" (some 0) with
  accessFlags := 1537
  interfaces := #[]
  cf := some (fileOf pool7 1 #[] #[] 1537 3 #[] #[])
  fields := #[]
  methods := #[]
  instanceTypes := #[]
  staticTypes := #[]
  resolved := Array.replicate 11 none
  statics := none }

def pool8 : Array CpInfo := pool [(1, .class_ 2), (0, u "java/lang/constant/ConstantDesc"), (0, .class_ 4), (0, u "java/lang/Object")] 32

/-- java/lang/constant/ConstantDesc -/
def k8 : Class := { plain "java/lang/constant/ConstantDesc" (some 0) with
  accessFlags := 1537
  interfaces := #[]
  cf := some (fileOf pool8 1 #[] #[] 1537 3 #[] #[])
  fields := #[]
  methods := #[]
  instanceTypes := #[]
  staticTypes := #[]
  resolved := Array.replicate 37 none
  statics := none }

def pool9 : Array CpInfo := pool [(1, .class_ 2), (0, u "java/lang/Integer"), (16, u "digits"), (0, u "[C"), (33, u "(I)I"), (30, u "DigitOnes"), (0, u "[B"), (2, u "DigitTens"), (99, .class_ 190), (0, u "java/lang/Integer$IntegerCache"), (3, u "I"), (8, .class_ 204), (0, u "java/lang/Number"), (2, u "value"), (56, .integer 65536), (37, u "TYPE"), (0, u "Ljava/lang/Class;"), (0, .class_ 305), (0, u "java/lang/Comparable"), (0, .class_ 307), (0, u "java/lang/constant/Constable"), (0, .class_ 309), (0, u "java/lang/constant/ConstantDesc"), (0, u "MIN_VALUE"), (1, u "MAX_VALUE"), (3, u "SIZE"), (1, u "BYTES"), (1, u "serialVersionUID"), (0, u "J"), (84, u "numberOfTrailingZeros")] 46

def k9c0 : Code := { maxStack := 3, maxLocals := 2, code := jdk_33_method_48_code, exceptionTable := #[], attributes := #[] }
def k9m0 : Method := { name := "numberOfTrailingZeros", desc := "(I)I", sig := { parameters := [.int], returnType := some .int }, accessFlags := 9, code := some k9c0 }
/-- java/lang/Integer -/
def k9 : Class := { plain "java/lang/Integer" (some 5) with
  accessFlags := 49
  interfaces := #[6, 7, 8]
  cf := some (fileOf pool9 1 #[.nestMembers #[189]] #[{ accessFlags := 9, nameIndex := 406, descriptorIndex := 54, attributes := #[] }] 49 203 #[304, 306, 308] #[{ accessFlags := 25, nameIndex := 310, descriptorIndex := 194, attributes := #[] }, { accessFlags := 25, nameIndex := 312, descriptorIndex := 194, attributes := #[] }, { accessFlags := 25, nameIndex := 302, descriptorIndex := 303, attributes := #[] }, { accessFlags := 24, nameIndex := 19, descriptorIndex := 20, attributes := #[] }, { accessFlags := 24, nameIndex := 89, descriptorIndex := 86, attributes := #[] }, { accessFlags := 24, nameIndex := 85, descriptorIndex := 86, attributes := #[] }, { accessFlags := 18, nameIndex := 207, descriptorIndex := 194, attributes := #[] }, { accessFlags := 25, nameIndex := 316, descriptorIndex := 194, attributes := #[] }, { accessFlags := 25, nameIndex := 318, descriptorIndex := 194, attributes := #[] }, { accessFlags := 26, nameIndex := 320, descriptorIndex := 321, attributes := #[] }])
  fields := #[{ name := "MIN_VALUE", type := .int, accessFlags := 25, slot := 0, constantValue := 0 }, { name := "MAX_VALUE", type := .int, accessFlags := 25, slot := 1, constantValue := 0 }, { name := "TYPE", type := (.object "java/lang/Class"), accessFlags := 25, slot := 2, constantValue := 0 }, { name := "digits", type := (.array .char), accessFlags := 24, slot := 3, constantValue := 0 }, { name := "DigitTens", type := (.array .byte), accessFlags := 24, slot := 4, constantValue := 0 }, { name := "DigitOnes", type := (.array .byte), accessFlags := 24, slot := 5, constantValue := 0 }, { name := "value", type := .int, accessFlags := 18, slot := 0, constantValue := 0 }, { name := "SIZE", type := .int, accessFlags := 25, slot := 6, constantValue := 0 }, { name := "BYTES", type := .int, accessFlags := 25, slot := 7, constantValue := 0 }, { name := "serialVersionUID", type := .long, accessFlags := 26, slot := 8, constantValue := 0 }]
  methods := #[k9m0]
  instanceTypes := #[.int]
  staticTypes := #[.int, .int, (.object "java/lang/Class"), (.array .char), (.array .byte), (.array .byte), .int, .int, .long]
  resolved := Array.replicate 453 none
  statics := none }

def pool10 : Array CpInfo := pool [(1, u "java/lang/Cloneable"), (0, .class_ 1), (0, u "java/lang/Object"), (0, .class_ 3)] 3

/-- java/lang/Cloneable -/
def k10 : Class := { plain "java/lang/Cloneable" (some 0) with
  accessFlags := 1537
  interfaces := #[]
  cf := some (fileOf pool10 2 #[] #[] 1537 4 #[] #[])
  fields := #[]
  methods := #[]
  instanceTypes := #[]
  staticTypes := #[]
  resolved := Array.replicate 8 none
  statics := none }

/-- the primitive byte -/
def k11 : Class := { plain "byte" none with kind := .primitive 'B', accessFlags := 0x411 }
/-- [B -/
def k12 : Class := { plain "[B" (some 0) with kind := .array 11 .byte, interfaces := #[10, 4], accessFlags := 1041 }

/-- the primitive int -/
def k13 : Class := { plain "int" none with kind := .primitive 'I', accessFlags := 0x411 }
/-- [I -/
def k14 : Class := { plain "[I" (some 0) with kind := .array 13 .int, interfaces := #[10, 4], accessFlags := 1041 }

/-- the primitive long -/
def k15 : Class := { plain "long" none with kind := .primitive 'J', accessFlags := 0x411 }
/-- [J -/
def k16 : Class := { plain "[J" (some 0) with kind := .array 15 .long, interfaces := #[10, 4], accessFlags := 1041 }

/-- [Lcom/example/clockwrap/clockwrap/store/LongTable$Part; -/
def k17 : Class := { plain "[Lcom/example/clockwrap/clockwrap/store/LongTable$Part;" (some 0) with kind := .array 3 (.object "com/example/clockwrap/clockwrap/store/LongTable$Part"), interfaces := #[10, 4], accessFlags := 1041 }

def heap : Heap := #[]
def classes : Array Class := #[k0, k1, k2, k3, k4, k5, k6, k7, k8, k9, k10, k11, k12, k13, k14, k15, k16, k17]
def interned : List (Array UInt16 × Addr) := []
def slotsUsed : Nat := 0
def theMethod : MethodId := ⟨1, 1⟩
def args0 : Array Value := #[.long 1, .long 2, .long 3, .long 4, .int 5]
def aboutOver (below : List Frame) : State where
  vm := { classes := classes, interned := interned.toArray }
  heap := heap
  slotsUsed := slotsUsed
  threads := #[{ frames := .invoking theMethod args0 :: below }]
def below0 : List Frame := [.native { method := ⟨0, 0⟩, args := #[] }]
def about1 : State := aboutOver below0
def p0 : Program := .bare "" "" ""
def e0 : Env := launch0.env 0 0 0
theorem w_frames : about1.frames = Frame.invoking theMethod args0 :: below0 := rfl
set_option maxRecDepth 65536 in
theorem w_args : argsFit about1.vm theMethod args0 = true := by decide +kernel
set_option maxRecDepth 65536 in
theorem w_heap : heapFits about1 = true := by decide +kernel
set_option maxRecDepth 65536 in
theorem w_runnable : about1.curStatus? = some .runnable := by decide +kernel
set_option maxRecDepth 65536 in
theorem w_alone : about1.alone = true := by decide +kernel
set_option maxRecDepth 65536 in
theorem w_named : about1.methodNamed? x = some theMethod := by decide +kernel
set_option maxRecDepth 65536 in
theorem w_hears : about1.hears theMethod below0 = true := by decide +kernel
set_option maxRecDepth 65536 in
theorem w_ripe : about1.ripe theMethod args0 below0 = true := by decide +kernel
theorem w_running : about1.status = .running := rfl
set_option maxRecDepth 65536 in
theorem w_room : about1.hasRoom e0.platform room_1 = true :=
  launch0.hasRoom_least _ room_1 (by decide +kernel) (by decide +kernel) (by decide +kernel) (by decide +kernel) (by decide +kernel) (by decide +kernel)
theorem allAtoms_all (ts : List Jvm.Cond) (a : Array Jvm.Value) (st : Jvm.State) : (allAtoms ts).before a st = ts.all (fun c => c.before a st) := by
  induction ts with
  | nil => rfl
  | cons c t ih =>
    show (Jvm.Cond.and c (allAtoms t)).before a st = _
    rw [Jvm.Cond.before_and, ih, List.all_cons]
def words1 : List Jvm.Cond := Jvm.Cond.code x code maxLocals ret :: tables_1
/-- a 'code' word, met by the world's own term for the bytes: nothing is compared byte by byte -/
theorem code_word {y : MethodName} {bytes : ByteArray} {mx : Nat} {rt : Option FieldType} {a : Array Value} {s : State} {m : MethodId} {meth : Method} {c : Code} (h1 : s.methodNamed? y = some m) (h2 : s.vm.method? m = some meth) (h3 : meth.code = some c) (h4 : c.code = bytes)
    (h5 : (c.maxLocals == mx && c.exceptionTable.isEmpty && decide (c.maxStack ≤ mostOperands) && decide (meth.sig.returnType = rt) && !meth.locks && decide (parseMethodDescriptor y.desc = some meth.sig)) = true) : (Jvm.Cond.code y bytes mx rt).before a s = true := by
  simp only [Bool.and_eq_true, beq_iff_eq, Bool.not_eq_true', decide_eq_true_eq] at h5
  obtain ⟨⟨⟨⟨⟨g1, g2⟩, g3⟩, g4⟩, g5⟩, g6⟩ := h5
  simp [Cond.before, Cond.holds, Cond.value, h1, h2, h3, h4, g1, g2, g3, g4, g5, g6]
def isCode : Jvm.Cond → Bool
  | .code _ _ _ _ => true
  | _ => false
theorem all_split {L : List Jvm.Cond} {P : Jvm.Cond → Bool} (h1 : L.all (fun c => isCode c || P c) = true) (h2 : ∀ c ∈ L.filter isCode, P c = true) : L.all P = true := by
  refine List.all_eq_true.mpr fun c hc => ?_
  have h := List.all_eq_true.mp h1 c hc
  rcases Bool.eq_false_or_eq_true (isCode c) with hi | hi
  · exact h2 c (List.mem_filter.mpr ⟨hc, hi⟩)
  · simpa [hi] using h
set_option maxRecDepth 65536 in
theorem w_c0 : (Jvm.Cond.code x code maxLocals ret).before args0 about1 = true := code_word (m := ⟨1, 1⟩) (meth := k1m1) (c := k1c1) (by decide +kernel) rfl rfl rfl (by decide +kernel)
set_option maxRecDepth 65536 in
theorem w_c1 : (Jvm.Cond.code ({ cls := "com/example/clockwrap/clockwrap/store/LongTable", name := "<init>", desc := "()V" } : Jvm.MethodName) prog_32_method_1_code (2 : Nat) (Option.none : Option Jvm.ClassFile.FieldType)).before args0 about1 = true := code_word (m := ⟨2, 0⟩) (meth := k2m0) (c := k2c0) (by decide +kernel) rfl rfl rfl (by decide +kernel)
set_option maxRecDepth 65536 in
theorem w_c2 : (Jvm.Cond.code ({ cls := "java/lang/Object", name := "<init>", desc := "()V" } : Jvm.MethodName) object_method_1_code (1 : Nat) (Option.none : Option Jvm.ClassFile.FieldType)).before args0 about1 = true := code_word (m := ⟨0, 0⟩) (meth := k0m0) (c := k0c0) (by decide +kernel) rfl rfl rfl (by decide +kernel)
set_option maxRecDepth 65536 in
theorem w_c3 : (Jvm.Cond.code ({ cls := "com/example/clockwrap/clockwrap/store/LongTable$Part", name := "<init>", desc := "()V" } : Jvm.MethodName) prog_33_method_1_code (1 : Nat) (Option.none : Option Jvm.ClassFile.FieldType)).before args0 about1 = true := code_word (m := ⟨3, 0⟩) (meth := k3m0) (c := k3c0) (by decide +kernel) rfl rfl rfl (by decide +kernel)
set_option maxRecDepth 65536 in
theorem w_c4 : (Jvm.Cond.code ({ cls := "java/lang/Integer", name := "numberOfTrailingZeros", desc := "(I)I" } : Jvm.MethodName) jdk_33_method_48_code (2 : Nat) (Option.some Jvm.ClassFile.FieldType.int)).before args0 about1 = true := code_word (m := ⟨9, 0⟩) (meth := k9m0) (c := k9c0) (by decide +kernel) rfl rfl rfl (by decide +kernel)
set_option maxRecDepth 65536 in
theorem w_c5 : (Jvm.Cond.code ({ cls := "com/example/clockwrap/clockwrap/store/LongTable", name := "add", desc := "(J)Z" } : Jvm.MethodName) prog_32_method_4_code (4 : Nat) (Option.some Jvm.ClassFile.FieldType.boolean)).before args0 about1 = true := code_word (m := ⟨2, 2⟩) (meth := k2m2) (c := k2c2) (by decide +kernel) rfl rfl rfl (by decide +kernel)
set_option maxRecDepth 65536 in
theorem w_c6 : (Jvm.Cond.code ({ cls := "com/example/clockwrap/clockwrap/store/LongTable", name := "part", desc := "(J)Lcom/example/clockwrap/clockwrap/store/LongTable$Part;" } : Jvm.MethodName) prog_32_method_8_code (3 : Nat) (Option.some (Jvm.ClassFile.FieldType.object "com/example/clockwrap/clockwrap/store/LongTable$Part"))).before args0 about1 = true := code_word (m := ⟨2, 4⟩) (meth := k2m4) (c := k2c4) (by decide +kernel) rfl rfl rfl (by decide +kernel)
set_option maxRecDepth 65536 in
theorem w_c7 : (Jvm.Cond.code ({ cls := "com/example/clockwrap/clockwrap/store/LongTable$Part", name := "add", desc := "(J)Z" } : Jvm.MethodName) prog_33_method_3_code (5 : Nat) (Option.some Jvm.ClassFile.FieldType.boolean)).before args0 about1 = true := code_word (m := ⟨3, 2⟩) (meth := k3m2) (c := k3c2) (by decide +kernel) rfl rfl rfl (by decide +kernel)
set_option maxRecDepth 65536 in
theorem w_c8 : (Jvm.Cond.code ({ cls := "com/example/clockwrap/clockwrap/store/LongTable$Part", name := "slot", desc := "(J)I" } : Jvm.MethodName) prog_33_method_8_code (5 : Nat) (Option.some Jvm.ClassFile.FieldType.int)).before args0 about1 = true := code_word (m := ⟨3, 5⟩) (meth := k3m5) (c := k3c5) (by decide +kernel) rfl rfl rfl (by decide +kernel)
set_option maxRecDepth 65536 in
theorem w_c9 : (Jvm.Cond.code ({ cls := "com/example/clockwrap/clockwrap/store/LongTable$Part", name := "home", desc := "(J)I" } : Jvm.MethodName) prog_33_method_9_code (3 : Nat) (Option.some Jvm.ClassFile.FieldType.int)).before args0 about1 = true := code_word (m := ⟨3, 6⟩) (meth := k3m6) (c := k3c6) (by decide +kernel) rfl rfl rfl (by decide +kernel)
set_option maxRecDepth 65536 in
theorem w_c10 : (Jvm.Cond.code ({ cls := "com/example/clockwrap/clockwrap/store/LongTable$Part", name := "place", desc := "(IJJ)V" } : Jvm.MethodName) prog_33_method_7_code (6 : Nat) (Option.none : Option Jvm.ClassFile.FieldType)).before args0 about1 = true := code_word (m := ⟨3, 4⟩) (meth := k3m4) (c := k3c4) (by decide +kernel) rfl rfl rfl (by decide +kernel)
set_option maxRecDepth 65536 in
theorem w_c11 : (Jvm.Cond.code ({ cls := "com/example/clockwrap/clockwrap/store/LongTable", name := "contains", desc := "(J)Z" } : Jvm.MethodName) prog_32_method_3_code (3 : Nat) (Option.some Jvm.ClassFile.FieldType.boolean)).before args0 about1 = true := code_word (m := ⟨2, 1⟩) (meth := k2m1) (c := k2c1) (by decide +kernel) rfl rfl rfl (by decide +kernel)
set_option maxRecDepth 65536 in
theorem w_c12 : (Jvm.Cond.code ({ cls := "com/example/clockwrap/clockwrap/store/LongTable$Part", name := "contains", desc := "(J)Z" } : Jvm.MethodName) prog_33_method_2_code (3 : Nat) (Option.some Jvm.ClassFile.FieldType.boolean)).before args0 about1 = true := code_word (m := ⟨3, 1⟩) (meth := k3m1) (c := k3c1) (by decide +kernel) rfl rfl rfl (by decide +kernel)
set_option maxRecDepth 65536 in
theorem w_c13 : (Jvm.Cond.code ({ cls := "com/example/clockwrap/clockwrap/store/LongTableContainsPinLaw", name := "model", desc := "(JJJJZJ)Z" } : Jvm.MethodName) method_3_code (12 : Nat) (Option.some Jvm.ClassFile.FieldType.boolean)).before args0 about1 = true := code_word (m := ⟨1, 2⟩) (meth := k1m2) (c := k1c2) (by decide +kernel) rfl rfl rfl (by decide +kernel)
set_option maxRecDepth 65536 in
theorem w_c14 : (Jvm.Cond.code ({ cls := "com/example/clockwrap/clockwrap/store/LongTable", name := "remove", desc := "(J)Z" } : Jvm.MethodName) prog_32_method_7_code (4 : Nat) (Option.some Jvm.ClassFile.FieldType.boolean)).before args0 about1 = true := code_word (m := ⟨2, 3⟩) (meth := k2m3) (c := k2c3) (by decide +kernel) rfl rfl rfl (by decide +kernel)
set_option maxRecDepth 65536 in
theorem w_c15 : (Jvm.Cond.code ({ cls := "com/example/clockwrap/clockwrap/store/LongTable$Part", name := "remove", desc := "(J)Z" } : Jvm.MethodName) prog_33_method_6_code (5 : Nat) (Option.some Jvm.ClassFile.FieldType.boolean)).before args0 about1 = true := code_word (m := ⟨3, 3⟩) (meth := k3m3) (c := k3c3) (by decide +kernel) rfl rfl rfl (by decide +kernel)
set_option maxRecDepth 65536 in
theorem w_c16 : (Jvm.Cond.code ({ cls := "com/example/clockwrap/clockwrap/store/LongTable$Part", name := "free", desc := "(I)V" } : Jvm.MethodName) prog_33_method_10_code (5 : Nat) (Option.none : Option Jvm.ClassFile.FieldType)).before args0 about1 = true := code_word (m := ⟨3, 7⟩) (meth := k3m7) (c := k3c7) (by decide +kernel) rfl rfl rfl (by decide +kernel)
def codes1 : List Jvm.Cond := [Jvm.Cond.code x code maxLocals ret, Jvm.Cond.code ({ cls := "com/example/clockwrap/clockwrap/store/LongTable", name := "<init>", desc := "()V" } : Jvm.MethodName) prog_32_method_1_code (2 : Nat) (Option.none : Option Jvm.ClassFile.FieldType), Jvm.Cond.code ({ cls := "java/lang/Object", name := "<init>", desc := "()V" } : Jvm.MethodName) object_method_1_code (1 : Nat) (Option.none : Option Jvm.ClassFile.FieldType), Jvm.Cond.code ({ cls := "com/example/clockwrap/clockwrap/store/LongTable$Part", name := "<init>", desc := "()V" } : Jvm.MethodName) prog_33_method_1_code (1 : Nat) (Option.none : Option Jvm.ClassFile.FieldType), Jvm.Cond.code ({ cls := "java/lang/Integer", name := "numberOfTrailingZeros", desc := "(I)I" } : Jvm.MethodName) jdk_33_method_48_code (2 : Nat) (Option.some Jvm.ClassFile.FieldType.int), Jvm.Cond.code ({ cls := "com/example/clockwrap/clockwrap/store/LongTable", name := "add", desc := "(J)Z" } : Jvm.MethodName) prog_32_method_4_code (4 : Nat) (Option.some Jvm.ClassFile.FieldType.boolean), Jvm.Cond.code ({ cls := "com/example/clockwrap/clockwrap/store/LongTable", name := "part", desc := "(J)Lcom/example/clockwrap/clockwrap/store/LongTable$Part;" } : Jvm.MethodName) prog_32_method_8_code (3 : Nat) (Option.some (Jvm.ClassFile.FieldType.object "com/example/clockwrap/clockwrap/store/LongTable$Part")), Jvm.Cond.code ({ cls := "com/example/clockwrap/clockwrap/store/LongTable$Part", name := "add", desc := "(J)Z" } : Jvm.MethodName) prog_33_method_3_code (5 : Nat) (Option.some Jvm.ClassFile.FieldType.boolean), Jvm.Cond.code ({ cls := "com/example/clockwrap/clockwrap/store/LongTable$Part", name := "slot", desc := "(J)I" } : Jvm.MethodName) prog_33_method_8_code (5 : Nat) (Option.some Jvm.ClassFile.FieldType.int), Jvm.Cond.code ({ cls := "com/example/clockwrap/clockwrap/store/LongTable$Part", name := "home", desc := "(J)I" } : Jvm.MethodName) prog_33_method_9_code (3 : Nat) (Option.some Jvm.ClassFile.FieldType.int), Jvm.Cond.code ({ cls := "com/example/clockwrap/clockwrap/store/LongTable$Part", name := "place", desc := "(IJJ)V" } : Jvm.MethodName) prog_33_method_7_code (6 : Nat) (Option.none : Option Jvm.ClassFile.FieldType), Jvm.Cond.code ({ cls := "com/example/clockwrap/clockwrap/store/LongTable", name := "contains", desc := "(J)Z" } : Jvm.MethodName) prog_32_method_3_code (3 : Nat) (Option.some Jvm.ClassFile.FieldType.boolean), Jvm.Cond.code ({ cls := "com/example/clockwrap/clockwrap/store/LongTable$Part", name := "contains", desc := "(J)Z" } : Jvm.MethodName) prog_33_method_2_code (3 : Nat) (Option.some Jvm.ClassFile.FieldType.boolean), Jvm.Cond.code ({ cls := "com/example/clockwrap/clockwrap/store/LongTableContainsPinLaw", name := "model", desc := "(JJJJZJ)Z" } : Jvm.MethodName) method_3_code (12 : Nat) (Option.some Jvm.ClassFile.FieldType.boolean), Jvm.Cond.code ({ cls := "com/example/clockwrap/clockwrap/store/LongTable", name := "remove", desc := "(J)Z" } : Jvm.MethodName) prog_32_method_7_code (4 : Nat) (Option.some Jvm.ClassFile.FieldType.boolean), Jvm.Cond.code ({ cls := "com/example/clockwrap/clockwrap/store/LongTable$Part", name := "remove", desc := "(J)Z" } : Jvm.MethodName) prog_33_method_6_code (5 : Nat) (Option.some Jvm.ClassFile.FieldType.boolean), Jvm.Cond.code ({ cls := "com/example/clockwrap/clockwrap/store/LongTable$Part", name := "free", desc := "(I)V" } : Jvm.MethodName) prog_33_method_10_code (5 : Nat) (Option.none : Option Jvm.ClassFile.FieldType)]
set_option maxRecDepth 65536 in
theorem codes_eq : words1.filter isCode = codes1 := rfl
theorem w_codes : ∀ c ∈ words1.filter isCode, c.before args0 about1 = true := by
  rw [codes_eq]
  intro c hc
  simp only [codes1, List.mem_cons, List.not_mem_nil, or_false] at hc
  rcases hc with rfl | rfl | rfl | rfl | rfl | rfl | rfl | rfl | rfl | rfl | rfl | rfl | rfl | rfl | rfl | rfl | rfl
  · exact w_c0
  · exact w_c1
  · exact w_c2
  · exact w_c3
  · exact w_c4
  · exact w_c5
  · exact w_c6
  · exact w_c7
  · exact w_c8
  · exact w_c9
  · exact w_c10
  · exact w_c11
  · exact w_c12
  · exact w_c13
  · exact w_c14
  · exact w_c15
  · exact w_c16
set_option maxRecDepth 65536 in
theorem w_t1 : (words1.take 24).all (fun c => isCode c || c.before args0 about1) = true := by decide +kernel
set_option maxRecDepth 65536 in
theorem w_t2 : ((words1.drop 24).take 24).all (fun c => isCode c || c.before args0 about1) = true := by decide +kernel
set_option maxRecDepth 65536 in
theorem w_t3 : (((words1.drop 24).drop 24).take 24).all (fun c => isCode c || c.before args0 about1) = true := by decide +kernel
set_option maxRecDepth 65536 in
theorem w_t4 : ((((words1.drop 24).drop 24).drop 24).take 24).all (fun c => isCode c || c.before args0 about1) = true := by decide +kernel
set_option maxRecDepth 65536 in
theorem w_t5 : ((((words1.drop 24).drop 24).drop 24).drop 24).all (fun c => isCode c || c.before args0 about1) = true := by decide +kernel
theorem w_tables : (allAtoms (Jvm.Cond.code x code maxLocals ret :: tables_1)).before args0 about1 = true := by
  rw [allAtoms_all]
  show words1.all (fun c => c.before args0 about1) = true
  refine all_split ?_ w_codes
  rw [← List.take_append_drop 24 words1, List.all_append, w_t1, ← List.take_append_drop 24 (words1.drop 24), List.all_append, w_t2, ← List.take_append_drop 24 ((words1.drop 24).drop 24), List.all_append, w_t3, ← List.take_append_drop 24 (((words1.drop 24).drop 24).drop 24), List.all_append, w_t4, w_t5]
  rfl
set_option maxRecDepth 65536 in
theorem w_case : (Jvm.Cond.and given_1 narrow_1).before args0 about1 = true := by decide +kernel
theorem w_applies : (headSpec (Jvm.Cond.code x code maxLocals ret :: tables_1) room_1).applies x e0.platform about1 = true :=
  (Spec.applies_iff w_frames).mpr ⟨w_running, w_runnable, w_alone, w_named, w_hears, w_ripe, w_room, w_tables⟩
theorem atStart : AtStart classFile x code maxLocals ret World_1 tables_1 room_1 Calls_1 rest_1 Pre_1 launch0 p0 e0 about1 theMethod args0 below0 :=
  ⟨lists_1, trivial, launch0.admits_env _ _ _, launch0.least_env, fairChoices_fair.cas, fairChoices_fair.clock, w_frames, w_args, w_heap, w_applies, trivial, trivial, w_case⟩
end start1
theorem witness_1 : WitnessClaimed_1 := ⟨start1.p0, start1.e0, start1.about1, start1.theMethod, start1.args0, start1.below0, start1.atStart⟩
end Jvm.Pilot.@@N@@
