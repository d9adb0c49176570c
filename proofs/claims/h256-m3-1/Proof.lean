import JvmDerived
import JvmDerived.Pilot.@@N@@Statement
import JvmDerived.Pilot.@@N@@Code
set_option linter.unusedVariables false
set_option linter.unusedSimpArgs false
namespace Jvm.Pilot.@@N@@
open Jvm Jvm.ClassFile Sem Op Lib Jvm.Free Jvm.Stand Jvm.LawKit Jvm.RoadKit Bundle Jvm.Pilot.@@N@@.Jvm.D
/-! the walk in continuation style: 'Fin': from F on the run comes to an end that answers Q -/
section Own
variable {p : Program} {l : Launch} {e : Env} {R : Room} {s : State} {m : MethodId} {args : Array Value} {below : List Frame} {meth : Method} {c : Code} {T : State} {locs : List Loc} {cells slots : Nat}
def OFin (p : Program) (e : Env) (below : List Frame) (Q : Outcome → State → Prop) (F : State) : Prop := ∃ s₂ o, Steps p.tables e below F s₂ ∧ s₂.status = .running ∧ Ended s₂ below o ∧ Q o s₂
def ORet (Q : Option Value → Heap → List Loc → Prop) (s : State) (C S : Nat) (o : Outcome) (U' : State) : Prop := ∃ v L, o = .returned v ∧ Q v U'.heap L ∧ FrameEnd s o U' L C S
theorem OFin.go {Q : Outcome → State → Prop} {F F' : State} (st : ∀ t, Steps p.tables e below F' t → Steps p.tables e below F t) (h : OFin p e below Q F') : OFin p e below Q F := by
  obtain ⟨s2, o, h1, r⟩ := h; exact ⟨s2, o, st _ h1, r⟩
theorem OFin.tr {Q : Outcome → State → Prop} {F F' : State} (st : Steps p.tables e below F F') (h : OFin p e below Q F') : OFin p e below Q F := by
  obtain ⟨s2, o, h1, r⟩ := h; exact ⟨s2, o, st.trans h1, r⟩
variable {Q : Option Value → Heap → List Loc → Prop} {C S : Nat}
theorem finZ (X : Stand p l e R s m args below meth c T locs cells slots) (hx : p.tables.exec = Jvm.exec) (hlocks : meth.locks = false) {t : FieldType} (hret : meth.sig.returnType = some t) (ht : t = .boolean ∨ t = .byte ∨ t = .char ∨ t = .short) {pc : Nat} (hd : decode c.code pc = .ok (.ireturn, 1)) {z z' : Int32} (hz : nar t z = z') (hc : cells ≤ C) (hs : slots ≤ S) {Ls : Array Slot} {rest : List Value} (hQ : Q (some (.int z')) T.heap locs) : OFin p e below (ORet Q s C S) (T.setTop (mkF m pc Ls (.int z :: rest))) := by
  subst hz
  obtain ⟨fs, hr, hrun, hended, hW, hsame⟩ := X.leave (v := some (.int (nar t z))) (fun h => by rw [hret] at h; cases h)
  exact ⟨_, _, retN X hx (t := t) hret ht hd hr, hrun, hended, _, _, rfl, hQ, ⟨_, rfl⟩, hW, hsame.mono hc hs⟩
theorem finI (X : Stand p l e R s m args below meth c T locs cells slots) (hx : p.tables.exec = Jvm.exec) (hlocks : meth.locks = false) (hret : meth.sig.returnType = some .int) {pc : Nat} (hd : decode c.code pc = .ok (.ireturn, 1)) {z : Int32} (hc : cells ≤ C) (hs : slots ≤ S) {Ls : Array Slot} {rest : List Value} (hQ : Q (some (.int z)) T.heap locs) : OFin p e below (ORet Q s C S) (T.setTop (mkF m pc Ls (.int z :: rest))) := by
  obtain ⟨fs, hr, hrun, hended, hW, hsame⟩ := X.leave (v := some (.int z)) (fun h => by rw [hret] at h; cases h)
  exact ⟨_, _, retOut X hx hret rfl (Or.inl ⟨rfl, Or.inl rfl, _, rfl⟩) hd hr, hrun, hended, _, _, rfl, hQ, ⟨_, rfl⟩, hW, hsame.mono hc hs⟩
theorem finJ (X : Stand p l e R s m args below meth c T locs cells slots) (hx : p.tables.exec = Jvm.exec) (hlocks : meth.locks = false) (hret : meth.sig.returnType = some .long) {pc : Nat} (hd : decode c.code pc = .ok (.lreturn, 1)) {z : Int64} (hc : cells ≤ C) (hs : slots ≤ S) {Ls : Array Slot} {rest : List Value} (hQ : Q (some (.long z)) T.heap locs) : OFin p e below (ORet Q s C S) (T.setTop (mkF m pc Ls (.long z :: rest))) := by
  obtain ⟨fs, hr, hrun, hended, hW, hsame⟩ := X.leave (v := some (.long z)) (fun h => by rw [hret] at h; cases h)
  exact ⟨_, _, retOut X hx hret rfl (Or.inr (Or.inl ⟨rfl, rfl, _, rfl⟩)) hd hr, hrun, hended, _, _, rfl, hQ, ⟨_, rfl⟩, hW, hsame.mono hc hs⟩
theorem finD (X : Stand p l e R s m args below meth c T locs cells slots) (hx : p.tables.exec = Jvm.exec) (hlocks : meth.locks = false) (hret : meth.sig.returnType = some .double) {pc : Nat} (hd : decode c.code pc = .ok (.dreturn, 1)) {z : UInt64} (hc : cells ≤ C) (hs : slots ≤ S) {Ls : Array Slot} {rest : List Value} (hQ : Q (some (.double z)) T.heap locs) : OFin p e below (ORet Q s C S) (T.setTop (mkF m pc Ls (.double z :: rest))) := by
  obtain ⟨fs, hr, hrun, hended, hW, hsame⟩ := X.leave (v := some (.double z)) (fun h => by rw [hret] at h; cases h)
  exact ⟨_, _, retOut X hx hret rfl (Or.inr (Or.inr (Or.inl ⟨rfl, rfl, _, rfl⟩))) hd hr, hrun, hended, _, _, rfl, hQ, ⟨_, rfl⟩, hW, hsame.mono hc hs⟩
theorem finA (X : Stand p l e R s m args below meth c T locs cells slots) (hx : p.tables.exec = Jvm.exec) (hlocks : meth.locks = false) {w : Value} (hw : w.isRef = true) {t : FieldType} (hret : meth.sig.returnType = some t) (ht : t.isReference = true) {pc : Nat} (hd : decode c.code pc = .ok (.areturn, 1)) (hc : cells ≤ C) (hs : slots ≤ S) {Ls : Array Slot} {rest : List Value} (hQ : Q (some w) T.heap locs) : OFin p e below (ORet Q s C S) (T.setTop (mkF m pc Ls (w :: rest))) := by
  obtain ⟨fs, hr, hrun, hended, hW, hsame⟩ := X.leave (v := some w) (fun h => by rw [hret] at h; cases h)
  refine ⟨_, _, retOut X hx hret ?_ (Or.inr (Or.inr (Or.inr (Or.inr ⟨rfl, ht, hw⟩)))) hd hr, hrun, hended, _, _, rfl, hQ, ⟨_, rfl⟩, hW, hsame.mono hc hs⟩
  cases w <;> first | (simp [Value.isRef] at hw; done) | (cases t <;> first | rfl | (simp [FieldType.isReference] at ht; done))
theorem finV (X : Stand p l e R s m args below meth c T locs cells slots) (hx : p.tables.exec = Jvm.exec) (hlocks : meth.locks = false) (hret : meth.sig.returnType = none) {pc : Nat} (hd : decode c.code pc = .ok (.return_, 1)) (hc : cells ≤ C) (hs : slots ≤ S) {Ls : Array Slot} (hQ : Q none T.heap locs) : OFin p e below (ORet Q s C S) (T.setTop (mkF m pc Ls [])) := by
  obtain ⟨fs, hr, hrun, hended, hW, hsame⟩ := X.leave (v := none) (fun _ => rfl)
  exact ⟨_, _, X.returnOut hx hret hd hr, hrun, hended, _, _, rfl, hQ, ⟨_, rfl⟩, hW, hsame.mono hc hs⟩
end Own
/-- a boolean as the int that bears it -/
def bi (P : Prop) [Decidable P] : Int32 := if P then 1 else 0
theorem bi_t {P : Prop} [Decidable P] (h : P) : bi P = 1 := if_pos h
theorem bi_f {P : Prop} [Decidable P] (h : ¬ P) : bi P = 0 := if_neg h
theorem nar_bi (P : Prop) [Decidable P] : nar .boolean (bi P) = bi P := by unfold bi; split <;> rfl
theorem bi_iff {P Q : Prop} [Decidable P] [Decidable Q] : bi P = bi Q ↔ (P ↔ Q) := by
  unfold bi; by_cases h : P <;> by_cases k : Q <;> simp [h, k]
theorem bi0 {P : Prop} [Decidable P] : (bi P = 0) ↔ ¬ P := by unfold bi; by_cases h : P <;> simp [h]
theorem bi_ne_t {P : Prop} [Decidable P] (h : P) : ifCond.holds .ne (bi P) = true := by rw [bi_t h]; rfl
theorem bi_ne_f {P : Prop} [Decidable P] (h : ¬ P) : ifCond.holds .ne (bi P) = false := by rw [bi_f h]; rfl
theorem bi_eq_t {P : Prop} [Decidable P] (h : ¬ P) : ifCond.holds .eq (bi P) = true := by rw [bi_f h]; rfl
theorem bi_eq_f {P : Prop} [Decidable P] (h : P) : ifCond.holds .eq (bi P) = false := by rw [bi_t h]; rfl
theorem lc_lt_t {x y : Int64} (h : x < y) : ifCond.holds .lt (lcmpW x y) = true := (if0 _ _).trans (tlt ((lw_lt x y).mpr h)).1
theorem lc_lt_f {x y : Int64} (h : ¬ x < y) : ifCond.holds .lt (lcmpW x y) = false := (if0 _ _).trans (flt fun q => h ((lw_lt x y).mp q)).1
theorem lc_ge_t {x y : Int64} (h : ¬ x < y) : ifCond.holds .ge (lcmpW x y) = true := (if0 _ _).trans (flt fun q => h ((lw_lt x y).mp q)).2.1
theorem lc_ge_f {x y : Int64} (h : x < y) : ifCond.holds .ge (lcmpW x y) = false := (if0 _ _).trans (tlt ((lw_lt x y).mpr h)).2.1
theorem lc_gt_t {x y : Int64} (h : y < x) : ifCond.holds .gt (lcmpW x y) = true := (if0 _ _).trans (tlt ((lw_gt x y).mpr h)).2.2.1
theorem lc_gt_f {x y : Int64} (h : ¬ y < x) : ifCond.holds .gt (lcmpW x y) = false := (if0 _ _).trans (flt fun q => h ((lw_gt x y).mp q)).2.2.1
theorem lc_le_t {x y : Int64} (h : ¬ y < x) : ifCond.holds .le (lcmpW x y) = true := (if0 _ _).trans (flt fun q => h ((lw_gt x y).mp q)).2.2.2
theorem lc_le_f {x y : Int64} (h : y < x) : ifCond.holds .le (lcmpW x y) = false := (if0 _ _).trans (tlt ((lw_gt x y).mpr h)).2.2.2
theorem lc_eq_t {x y : Int64} (h : x = y) : ifCond.holds .eq (lcmpW x y) = true := (if0 _ _).trans (teq ((lw_eq x y).mpr h)).1
theorem lc_eq_f {x y : Int64} (h : ¬ x = y) : ifCond.holds .eq (lcmpW x y) = false := (if0 _ _).trans (feq fun q => h ((lw_eq x y).mp q)).1
theorem lc_ne_t {x y : Int64} (h : ¬ x = y) : ifCond.holds .ne (lcmpW x y) = true := (if0 _ _).trans (feq fun q => h ((lw_eq x y).mp q)).2
theorem lc_ne_f {x y : Int64} (h : x = y) : ifCond.holds .ne (lcmpW x y) = false := (if0 _ _).trans (teq ((lw_eq x y).mpr h)).2
/-! arrays by their places -/
def upd {α : Type} (f : Nat → α) (i : Nat) (v : α) : Nat → α := fun j => if j = i then v else f j
theorem upd_hit {α : Type} (f : Nat → α) (i : Nat) (v : α) : upd f i v i = v := if_pos rfl
theorem upd_miss {α : Type} {f : Nat → α} {i j : Nat} {v : α} (h : j ≠ i) : upd f i v j = f j := if_neg h
def Ara (Z : State) (h : Heap) (a : Addr) (ty : FieldType) (n : Nat) (f : Nat → Value) : Prop := ∃ c : Cell, Arr Z h a c ty ∧ c.slots.size = n ∧ n < 2 ^ 31 ∧ ∀ i, i < n → c.slots[i]? = some (f i)
section Ara
variable {Z : State} {h h' : Heap} {a b : Addr} {ty : FieldType} {n : Nat} {f f' : Nat → Value} {sl : Nat} {v : Value} {ws : List Addr}
theorem Ara.lt (F : Ara Z h a ty n f) : a < h.size := by obtain ⟨c, A, -⟩ := F; exact A.lt
theorem Ara.ext (F : Ara Z h a ty n f) (E : Ext h h') : Ara Z h' a ty n f := by obtain ⟨c, A, r⟩ := F; exact ⟨c, A.ext E, r⟩
theorem Ara.other (F : Ara Z h b ty n f) (W : Wr h h' a sl v) (q : b ≠ a) : Ara Z h' b ty n f := by obtain ⟨c, A, r⟩ := F; exact ⟨c, A.other W q, r⟩
theorem Ara.keep (F : Ara Z h a ty n f) (K : Keep h h' ws) (q : a ∉ ws) : Ara Z h' a ty n f := by obtain ⟨c, A, r⟩ := F; exact ⟨c, ⟨K.2.1 a c A.1 q, A.2⟩, r⟩
theorem Ara.set (F : Ara Z h a ty n f) (W : Wr h h' a sl v) : Ara Z h' a ty n (upd f sl v) := by
  obtain ⟨c, A, r1, r2, r3⟩ := F
  refine ⟨_, A.same W, by rw [sz_set]; exact r1, r2, fun i hi => ?_⟩
  by_cases q : i = sl
  · subst q; rw [upd_hit]; simp [Cell.setSlot, r1, hi]
  · rw [upd_miss q]; simp only [Cell.setSlot]; rw [Array.getElem?_setIfInBounds_ne (fun z => q z.symm)]; exact r3 i hi
theorem Ara.new {k : ClassId} {z : Int32} (A : Arr Z h a (newA k ty z) ty) (hn : z.toNatClampNeg = n) : Ara Z h a ty n (fun _ => defaultValue ty) := by
  refine ⟨_, A, by rw [sz_new]; exact hn, ?_, fun i hi => ?_⟩
  · rw [← hn]; have := z.toInt_lt; unfold Int32.toNatClampNeg; omega
  · rw [← hn] at hi; simp [newA, hi]
theorem Ara.congr (F : Ara Z h a ty n f) (q : ∀ i, i < n → f i = f' i) : Ara Z h a ty n f' := by obtain ⟨c, A, r1, r2, r3⟩ := F; exact ⟨c, A, r1, r2, fun i hi => by rw [← q i hi]; exact r3 i hi⟩
variable {p : Program} {l : Launch} {e : Env} {R : Room} {s : State} {m : MethodId} {args : Array Value} {below : List Frame} {meth : Method} {c : Code} {T : State} {locs : List Loc} {cells slots : Nat} {j : Int32} {i : Nat} {rest : List Value} {g : JFrame} {t : State} {x : Value}
theorem hin_of {cl : Cell} (S : cl.slots.size = n) (hj0 : ¬ j < 0) (hj : j.toNatClampNeg = i) (hi : i < n) : ¬ (j < 0 ∨ cl.slots.size ≤ j.toNatClampNeg) := by rw [S, hj]; exact fun q => q.elim hj0 (Nat.not_le.mpr hi)
theorem rdB (X : Stand p l e R s m args below meth c T locs cells slots) (hx : p.tables.exec = Jvm.exec) (hZ : Z.Warmed39 s.vm) (eT : T.heap = h) (F : Ara Z h a .byte n f) (hj0 : ¬ j < 0) (hj : j.toNatClampNeg = i) (hi : i < n) (hv : f i = x) (hg : g.method = m) (hs : g.stack = .int j :: .ref a :: rest) (hd : decode c.code g.pc = .ok (.baload, 1))
    (k : Steps p.tables e below (T.setTop { g with pc := g.pc + 1, stack := x :: rest }) t) : Steps p.tables e below (T.setTop g) t := by
  obtain ⟨cl, A, r1, r2, r3⟩ := F
  exact X.baloadBytes hx (by rw [eT]; exact A.1) (State.isArrayOf_alike hZ.alike A.2.1) A.2.2 (hin_of r1 hj0 hj hi) (by rw [hj, r3 i hi, hv]) hg hs hd _ k
theorem rdI (X : Stand p l e R s m args below meth c T locs cells slots) (hx : p.tables.exec = Jvm.exec) (hZ : Z.Warmed39 s.vm) (eT : T.heap = h) (F : Ara Z h a .int n f) (hj0 : ¬ j < 0) (hj : j.toNatClampNeg = i) (hi : i < n) (hv : f i = x) (hg : g.method = m) (hs : g.stack = .int j :: .ref a :: rest) (hd : decode c.code g.pc = .ok (.iaload, 1))
    (k : Steps p.tables e below (T.setTop { g with pc := g.pc + 1, stack := x :: rest }) t) : Steps p.tables e below (T.setTop g) t := by
  obtain ⟨cl, A, r1, r2, r3⟩ := F
  exact X.iaload hx (by rw [eT]; exact A.1) (State.isArrayOf_alike hZ.alike A.2.1) A.2.2 (hin_of r1 hj0 hj hi) (by rw [hj, r3 i hi, hv]) hg hs hd _ k
theorem rdJ (X : Stand p l e R s m args below meth c T locs cells slots) (hx : p.tables.exec = Jvm.exec) (hZ : Z.Warmed39 s.vm) (eT : T.heap = h) (F : Ara Z h a .long n f) (hj0 : ¬ j < 0) (hj : j.toNatClampNeg = i) (hi : i < n) (hv : f i = x) (hg : g.method = m) (hs : g.stack = .int j :: .ref a :: rest) (hd : decode c.code g.pc = .ok (.laload, 1))
    (k : Steps p.tables e below (T.setTop { g with pc := g.pc + 1, stack := x :: rest }) t) : Steps p.tables e below (T.setTop g) t := by
  obtain ⟨cl, A, r1, r2, r3⟩ := F
  exact X.laload hx (by rw [eT]; exact A.1) (State.isArrayOf_alike hZ.alike A.2.1) A.2.2 (hin_of r1 hj0 hj hi) (by rw [hj, r3 i hi, hv]) hg hs hd _ k
theorem rdR (X : Stand p l e R s m args below meth c T locs cells slots) (hx : p.tables.exec = Jvm.exec) (hZ : Z.Warmed39 s.vm) (eT : T.heap = h) (F : Ara Z h a ty n f) (hty : ty.isReference = true) (hj0 : ¬ j < 0) (hj : j.toNatClampNeg = i) (hi : i < n) (hv : f i = x) (hg : g.method = m) (hs : g.stack = .int j :: .ref a :: rest) (hd : decode c.code g.pc = .ok (.aaload, 1))
    (k : Steps p.tables e below (T.setTop { g with pc := g.pc + 1, stack := x :: rest }) t) : Steps p.tables e below (T.setTop g) t := by
  obtain ⟨cl, A, r1, r2, r3⟩ := F
  exact X.aaload hx (by rw [eT]; exact A.1) (State.isArrayOf_alike hZ.alike A.2.1) hty A.2.2 (hin_of r1 hj0 hj hi) (by rw [hj, r3 i hi, hv]) hg hs hd _ k
theorem alen (X : Stand p l e R s m args below meth c T locs cells slots) (hx : p.tables.exec = Jvm.exec) (hZ : Z.Warmed39 s.vm) (eT : T.heap = h) (F : Ara Z h a ty n f) {z : Int32} (hz : n.toInt32 = z) (hg : g.method = m) (hs : g.stack = .ref a :: rest) (hd : decode c.code g.pc = .ok (.arraylength, 1))
    (k : Steps p.tables e below (T.setTop { g with pc := g.pc + 1, stack := .int z :: rest }) t) : Steps p.tables e below (T.setTop g) t := by
  obtain ⟨cl, A, r1, r2, r3⟩ := F
  refine X.arraylength hx (by rw [eT]; exact A.1) (State.isArrayOf_alike hZ.alike A.2.1) hg hs hd _ ?_
  rw [r1, hz]; exact k
theorem wrB (X : Stand p l e R s m args below meth c T locs cells slots) (hx : p.tables.exec = Jvm.exec) (hZ : Z.Warmed39 s.vm) (eT : T.heap = h) (F : Ara Z h a .byte n f) {y : Int32} (hj0 : ¬ j < 0) (hj : j.toNatClampNeg = i) (hi : i < n) {y' : Int32} (hy : nar .byte y = y') (hg : g.method = m) (hs : g.stack = .int y :: .int j :: .ref a :: rest) (hd : decode c.code g.pc = .ok (.bastore, 1)) :
    ∃ T' h', Stand p l e R s m args below meth c T' (locs ++ [⟨a, i⟩]) cells slots ∧ T'.heap = h' ∧ Wr h h' a i (.int y') ∧ ∀ target, Steps p.tables e below (T'.setTop { g with pc := g.pc + 1, stack := rest }) target → Steps p.tables e below (T.setTop g) target := by
  subst hj hy
  obtain ⟨cl, A, r1, r2, r3⟩ := F
  exact stB X hx hZ eT A (hin_of r1 hj0 rfl hi) hg hs hd
theorem wrI (X : Stand p l e R s m args below meth c T locs cells slots) (hx : p.tables.exec = Jvm.exec) (hZ : Z.Warmed39 s.vm) (eT : T.heap = h) (F : Ara Z h a .int n f) {y : Int32} (hj0 : ¬ j < 0) (hj : j.toNatClampNeg = i) (hi : i < n) (hg : g.method = m) (hs : g.stack = .int y :: .int j :: .ref a :: rest) (hd : decode c.code g.pc = .ok (.iastore, 1)) :
    ∃ T' h', Stand p l e R s m args below meth c T' (locs ++ [⟨a, i⟩]) cells slots ∧ T'.heap = h' ∧ Wr h h' a i (.int y) ∧ ∀ target, Steps p.tables e below (T'.setTop { g with pc := g.pc + 1, stack := rest }) target → Steps p.tables e below (T.setTop g) target := by
  subst hj
  obtain ⟨cl, A, r1, r2, r3⟩ := F
  exact stI X hx hZ eT A (hin_of r1 hj0 rfl hi) hg hs hd
theorem wrJ (X : Stand p l e R s m args below meth c T locs cells slots) (hx : p.tables.exec = Jvm.exec) (hZ : Z.Warmed39 s.vm) (eT : T.heap = h) (F : Ara Z h a .long n f) {y : Int64} (hj0 : ¬ j < 0) (hj : j.toNatClampNeg = i) (hi : i < n) (hg : g.method = m) (hs : g.stack = .long y :: .int j :: .ref a :: rest) (hd : decode c.code g.pc = .ok (.lastore, 1)) :
    ∃ T' h', Stand p l e R s m args below meth c T' (locs ++ [⟨a, i⟩]) cells slots ∧ T'.heap = h' ∧ Wr h h' a i (.long y) ∧ ∀ target, Steps p.tables e below (T'.setTop { g with pc := g.pc + 1, stack := rest }) target → Steps p.tables e below (T.setTop g) target := by
  subst hj
  obtain ⟨cl, A, r1, r2, r3⟩ := F
  exact stJ X hx hZ eT A (hin_of r1 hj0 rfl hi) hg hs hd
end Ara
theorem wr_le {h h' : Heap} {a : Addr} {sl : Nat} {v : Value} (W : Wr h h' a sl v) : h.size ≤ h'.size := Nat.le_of_eq W.size.symm
theorem up_lt {k a b : Nat} (h : a < k) (g : b = k) : a ≠ b := by omega
theorem nar_b (y : Int32) : nar .byte y.toInt8.toInt32 = y.toInt8.toInt32 := by show y.toInt8.toInt32.toInt8.toInt32 = _; rw [Int8.toInt8_toInt32]
theorem Sta_keep {Z : State} {h h' : Heap} {C n d : String} {v : Value} {ws : List Addr} {k : Nat} (F : Sta Z h C n d v) (K : Keep h h' ws) (q : ∀ x ∈ ws, Z.heap.size ≤ x) (hst : ∀ cf kk i f st, Z.fieldFound? C n d = some (cf, kk, i, f) → kk.statics = some st → st < Z.heap.size) : Sta Z h' C n d v := by
  obtain ⟨cf, i, kk, f, st, cell, h1, h2, h3, h4, h5, r⟩ := F
  exact ⟨cf, i, kk, f, st, cell, h1, h2, h3, h4, K.2.1 _ _ h5 (fun z => absurd (hst _ _ _ _ _ h1 h4) (Nat.not_lt.mpr (q _ z))), r⟩
theorem eqv_r {Z : State} {args : Array Value} {X F : Term} {idx : List Nat} {y : Addr} (hF : F.eval args Z none idx Z = some (.ref y)) (h : (Cond.eq X F).value args Z none Z idx = some true) : X.eval args Z none idx Z = some (.ref y) := by
  cases hx : X.eval args Z none idx Z with
  | none => simp [Cond.value, hF, hx] at h
  | some x => cases x <;> simp [Cond.value, hF, hx] at h ⊢ <;> exact h
/-! calls by a contract, in one piece -/
section Calls
variable {p : Program} {l : Launch} {e : Env} {R : Room} {s : State} {m : MethodId} {args : Array Value} {below : List Frame} {meth : Method} {c : Code} {T : State} {locs : List Loc} {cells slots : Nat} {Z : State} {a0 : Array Value} {h : Heap}
abbrev Meets1 (l : Launch) (y : MethodName) (bytes : ByteArray) (maxL : Nat) (ret : Option FieldType) (rm : Room) (Z : State) (as' : Array Value) (h : Heap) (Q : Option Value → Heap → List Loc → Prop) : Prop :=
  MetFree l y (head1 [Cond.code y bytes maxL ret] rm) (fun a U => a = as' ∧ Z.Warmed39 U.vm ∧ U.heap = h) (fun _ _ _ _ _ => True) (fun _ U o U' => ∃ v L, o = .returned v ∧ Q v U'.heap L ∧ FrameEnd U o U' L rm.cells rm.slots)
theorem callQ (X : Stand p l e R s m args below meth c T locs cells slots) (hx : p.tables.exec = Jvm.exec) (hZ : Z.Warmed39 s.vm) {own : String} {index : Nat} {y : MethodName} {bytes : ByteArray} {maxL : Nat} {ret : Option FieldType} (hown : s.vm.findClass own = some m.cls)
    (w1 : (Cond.methodLink own index y).before a0 Z = true) (w2 : (Cond.static y).before a0 Z = true) (w3 : (Cond.initialized y.cls).before a0 Z = true) (w4 : (Cond.code y bytes maxL ret).before a0 Z = true) (hy : y.cls ≠ "java/lang/invoke/MethodHandle" ∧ y.cls ≠ "java/lang/invoke/VarHandle")
    {rm : Room} {argsL rest : List Value} {Q : Option Value → Heap → List Loc → Prop} (hM : Meets1 l y bytes maxL ret rm Z argsL.toArray h Q) {W : Nat} (hf : rm.frames + 1 ≤ R.frames) (hl : W + (maxL + 11) + rm.locals ≤ R.locals) (eT : T.heap = h)
    {g : JFrame} (hg : g.method = m) (hsize : g.locals.size = c.maxLocals) (hlen : ∀ sig, parseMethodDescriptor y.desc = some sig → argsL.length = sig.parameters.length) (hstack : g.stack = argsL.reverse ++ rest) (hW : 2 * g.monitorRoom + (rest.map fun v => v.category).sum ≤ W) (hd : decode c.code g.pc = .ok (.invokestatic index, 3)) (hc : cells + rm.cells ≤ R.cells) (hs : slots + rm.slots ≤ R.slots) :
    ∃ v T' L, Stand p l e R s m args below meth c T' (locs ++ L) (cells + rm.cells) (slots + rm.slots) ∧ Q v T'.heap L ∧ ∀ target, Steps p.tables e below (T'.setTop { g with pc := g.pc + 3, stack := v.toList ++ rest }) target → Steps p.tables e below (T.setTop g) target := by
  obtain ⟨v, _, ⟨T', L', k', n'⟩, -, X', ⟨L, hQ, hl', hk', hn'⟩, st⟩ := Jvm.LawKit.callS X hx hown (mvT hZ w1) (mvT hZ w2) (mvT hZ w3) (mvT hZ w4) hy (backOf (W := W) hM hZ w4 w3 hf hl) hg hsize hlen hstack hW hd (fun _ _ => ⟨rfl, eT, hc, hs⟩)
  dsimp only [Pt.U, Pt.locs, Pt.cells, Pt.slots] at X' hl' hk' hn' st hQ
  subst hl' hk' hn'
  exact ⟨v, T', L, X', hQ, st⟩
theorem specQ (X : Stand p l e R s m args below meth c T locs cells slots) (hx : p.tables.exec = Jvm.exec) (hZ : Z.Warmed39 s.vm) {own : String} {index : Nat} {y : MethodName} {bytes : ByteArray} {maxL : Nat} (hy1 : y.name = "<init>") (hown : s.vm.findClass own = some m.cls)
    (w1 : (Cond.methodLink own index y).before a0 Z = true) (w2 : (Cond.instanceMethod y).before a0 Z = true) (w3 : (Cond.initialized y.cls).before a0 Z = true) (w4 : (Cond.code y bytes maxL none).before a0 Z = true) (hy : y.cls ≠ "java/lang/invoke/MethodHandle" ∧ y.cls ≠ "java/lang/invoke/VarHandle")
    {rm : Room} {a : Addr} {argsL rest : List Value} {Q : Option Value → Heap → List Loc → Prop} (hM : Meets1 l y bytes maxL none rm Z (.ref a :: argsL).toArray h Q) {W : Nat} (hf : rm.frames + 1 ≤ R.frames) (hl : W + (maxL + 11) + rm.locals ≤ R.locals) (eT : T.heap = h)
    {g : JFrame} (hg : g.method = m) (hsize : g.locals.size = c.maxLocals) (hlen : ∀ sig, parseMethodDescriptor y.desc = some sig → argsL.length = sig.parameters.length) (hstack : g.stack = argsL.reverse ++ .ref a :: rest) (hW : 2 * g.monitorRoom + (rest.map fun v => v.category).sum ≤ W) (hd : decode c.code g.pc = .ok (.invokespecial index, 3)) (hc : cells + rm.cells ≤ R.cells) (hs : slots + rm.slots ≤ R.slots) :
    ∃ v T' L, Stand p l e R s m args below meth c T' (locs ++ L) (cells + rm.cells) (slots + rm.slots) ∧ Q v T'.heap L ∧ ∀ target, Steps p.tables e below (T'.setTop { g with pc := g.pc + 3, stack := v.toList ++ rest }) target → Steps p.tables e below (T.setTop g) target := by
  obtain ⟨v, _, ⟨T', L', k', n'⟩, -, X', ⟨L, hQ, hl', hk', hn'⟩, st⟩ := X.specialBack hx hy1 hown (mvT hZ w1) (mvT hZ w2) (mvT hZ w4) hy (backOf (W := W) hM hZ w4 w3 hf hl) hg hsize (Steps.refl _) hlen hstack hW hd (fun _ _ => ⟨rfl, eT, hc, hs⟩)
  dsimp only [Pt.U, Pt.locs, Pt.cells, Pt.slots] at X' hl' hk' hn' st hQ
  subst hl' hk' hn'
  exact ⟨v, T', L, X', hQ, fun t k => st.trans k⟩
theorem virtQ (X : Stand p l e R s m args below meth c T locs cells slots) (hx : p.tables.exec = Jvm.exec) (hZ : Z.Warmed39 s.vm) {own : String} {index : Nat} {y : MethodName} {bytes : ByteArray} {maxL : Nat} {ret : Option FieldType} (hown : s.vm.findClass own = some m.cls)
    (w1 : (Cond.methodLink own index y).before a0 Z = true) (w2 : (Cond.instanceMethod y).before a0 Z = true) (w3 : (Cond.initialized y.cls).before a0 Z = true) (w4 : (Cond.code y bytes maxL ret).before a0 Z = true) (w5 : (Cond.declares y).before a0 Z = true) (w6 : (Cond.selects y.cls y y).before a0 Z = true) (hy : y.cls ≠ "java/lang/invoke/MethodHandle" ∧ y.cls ≠ "java/lang/invoke/VarHandle")
    {rm : Room} {a : Addr} (E : Exa Z h a y.cls) {argsL rest : List Value} {Q : Option Value → Heap → List Loc → Prop} (hM : Meets1 l y bytes maxL ret rm Z (.ref a :: argsL).toArray h Q) {W : Nat} (hf : rm.frames + 1 ≤ R.frames) (hl : W + (maxL + 11) + rm.locals ≤ R.locals) (eT : T.heap = h)
    {g : JFrame} (hg : g.method = m) (hsize : g.locals.size = c.maxLocals) (hlen : ∀ sig, parseMethodDescriptor y.desc = some sig → argsL.length = sig.parameters.length) (hstack : g.stack = argsL.reverse ++ .ref a :: rest) (hW : 2 * g.monitorRoom + (rest.map fun v => v.category).sum ≤ W) (hd : decode c.code g.pc = .ok (.invokevirtual index, 3)) (hc : cells + rm.cells ≤ R.cells) (hs : slots + rm.slots ≤ R.slots) :
    ∃ v T' L, Stand p l e R s m args below meth c T' (locs ++ L) (cells + rm.cells) (slots + rm.slots) ∧ Q v T'.heap L ∧ ∀ target, Steps p.tables e below (T'.setTop { g with pc := g.pc + 3, stack := v.toList ++ rest }) target → Steps p.tables e below (T.setTop g) target := by
  obtain ⟨cq, kq, qa, qb, qc⟩ := isOf hZ eT E
  obtain ⟨v, _, ⟨T', L', k', n'⟩, -, X', ⟨L, hQ, hl', hk', hn'⟩, st⟩ := X.virtualBack hx (y := y) (z := y) hown (mvT hZ w1) (mvT hZ w5) (notFace_of_selects (args := #[]) (mvT hZ w6)) (mvT hZ w6) (mvT hZ w2) hy (backOf (W := W) hM hZ w4 w3 hf hl) qa qc hg hsize (Steps.refl _) hlen hstack hW hd (fun _ _ => ⟨rfl, eT, hc, hs⟩)
  dsimp only [Pt.U, Pt.locs, Pt.cells, Pt.slots] at X' hl' hk' hn' st hQ
  subst hl' hk' hn'
  exact ⟨v, T', L, X', hQ, fun t k => st.trans k⟩
theorem privS {Z s : State} {a0 args : Array Value} {y : MethodName} {kk : Nat} (hZ : Z.Warmed39 s.vm) (w2 : (Cond.instanceMethod y).before a0 Z = true) (w5 : (Cond.privateMethod y).before a0 Z = true) (w6 : (Cond.instantiable y.cls kk).before a0 Z = true) (hy : y.cls ≠ "java/lang/invoke/MethodHandle" ∧ y.cls ≠ "java/lang/invoke/VarHandle") : (Cond.selects y.cls y y).before args s = true := by
  have w := mvT (args := args) hZ w6
  obtain ⟨c, k, h1, h2, -, h3, -⟩ := Cond.instantiable_spec (show (Cond.instantiable y.cls kk).holds args s none s [] = true from w)
  exact selects_self_of_private h1 h2 (Bool.or_eq_false_iff.mp h3).1 (Cond.privateMethod_at (mvP hZ w5 (args := #[]))) (mvT hZ w2) hy
theorem privQ (X : Stand p l e R s m args below meth c T locs cells slots) (hx : p.tables.exec = Jvm.exec) (hZ : Z.Warmed39 s.vm) {own : String} {index : Nat} {y : MethodName} {bytes : ByteArray} {maxL : Nat} {ret : Option FieldType} (hown : s.vm.findClass own = some m.cls)
    (w1 : (Cond.methodLink own index y).before a0 Z = true) (w2 : (Cond.instanceMethod y).before a0 Z = true) (w3 : (Cond.initialized y.cls).before a0 Z = true) (w4 : (Cond.code y bytes maxL ret).before a0 Z = true) (w5 : (Cond.privateMethod y).before a0 Z = true) {kk : Nat} (w6 : (Cond.instantiable y.cls kk).before a0 Z = true) (hy : y.cls ≠ "java/lang/invoke/MethodHandle" ∧ y.cls ≠ "java/lang/invoke/VarHandle")
    {rm : Room} {a : Addr} {C : String} (E : Exa Z h a C) {argsL rest : List Value} {Q : Option Value → Heap → List Loc → Prop} (hM : Meets1 l y bytes maxL ret rm Z (.ref a :: argsL).toArray h Q) {W : Nat} (hf : rm.frames + 1 ≤ R.frames) (hl : W + (maxL + 11) + rm.locals ≤ R.locals) (eT : T.heap = h)
    {g : JFrame} (hg : g.method = m) (hsize : g.locals.size = c.maxLocals) (hlen : ∀ sig, parseMethodDescriptor y.desc = some sig → argsL.length = sig.parameters.length) (hstack : g.stack = argsL.reverse ++ .ref a :: rest) (hW : 2 * g.monitorRoom + (rest.map fun v => v.category).sum ≤ W) (hd : decode c.code g.pc = .ok (.invokevirtual index, 3)) (hc : cells + rm.cells ≤ R.cells) (hs : slots + rm.slots ≤ R.slots) :
    ∃ v T' L, Stand p l e R s m args below meth c T' (locs ++ L) (cells + rm.cells) (slots + rm.slots) ∧ Q v T'.heap L ∧ ∀ target, Steps p.tables e below (T'.setTop { g with pc := g.pc + 3, stack := v.toList ++ rest }) target → Steps p.tables e below (T.setTop g) target := by
  obtain ⟨cq, q1, q2⟩ := E.cell
  obtain ⟨v, _, ⟨T', L', k', n'⟩, -, X', ⟨L, hQ, hl', hk', hn'⟩, st⟩ := X.privateBack hx (y := y) hown (mvT hZ w1) (mvT hZ w2) (privS hZ w2 w5 w6 hy) (Cond.privateMethod_at (mvP hZ w5 (args := #[]))) (mvT hZ w4) hy (backOf (W := W) hM hZ w4 w3 hf hl) hg hsize (Steps.refl _) (a := a) (by rw [eT]; exact q1) q2 hlen hstack hW hd (fun _ _ => ⟨rfl, eT, hc, hs⟩)
  dsimp only [Pt.U, Pt.locs, Pt.cells, Pt.slots] at X' hl' hk' hn' st hQ
  subst hl' hk' hn'
  exact ⟨v, T', L, X', hQ, fun t k => st.trans k⟩
end Calls
/-- a constructor that the pool's entry, resolved already, names (a methodRef word) -/
theorem specRefQ {p : Program} {l : Launch} {e : Env} {R : Room} {s : State} {m : MethodId} {args : Array Value} {below : List Frame} {meth : Method} {c : Code} {T : State} {locs : List Loc} {cells slots : Nat} {Z : State} {a0 : Array Value} {h : Heap}
    (X : Stand p l e R s m args below meth c T locs cells slots) (hx : p.tables.exec = Jvm.exec) (hZ : Z.Warmed39 s.vm) {own : String} {index : Nat} {y : MethodName} {bytes : ByteArray} {maxL : Nat} (hy1 : y.name = "<init>") (hown : s.vm.findClass own = some m.cls)
    (w1 : (Cond.methodRef own index y).before a0 Z = true) (w2 : (Cond.instanceMethod y).before a0 Z = true) (w3 : (Cond.initialized y.cls).before a0 Z = true) (w4 : (Cond.code y bytes maxL none).before a0 Z = true) (hy : y.cls ≠ "java/lang/invoke/MethodHandle" ∧ y.cls ≠ "java/lang/invoke/VarHandle")
    {rm : Room} {a : Addr} {argsL rest : List Value} {Q : Option Value → Heap → List Loc → Prop} (hM : Meets1 l y bytes maxL none rm Z (.ref a :: argsL).toArray h Q) {W : Nat} (hf : rm.frames + 1 ≤ R.frames) (hl : W + (maxL + 11) + rm.locals ≤ R.locals) (eT : T.heap = h)
    {g : JFrame} (hg : g.method = m) (hsize : g.locals.size = c.maxLocals) (hlen : ∀ sig, parseMethodDescriptor y.desc = some sig → argsL.length = sig.parameters.length) (hstack : g.stack = argsL.reverse ++ .ref a :: rest) (hW : 2 * g.monitorRoom + (rest.map fun v => v.category).sum ≤ W) (hd : decode c.code g.pc = .ok (.invokespecial index, 3)) (hc : cells + rm.cells ≤ R.cells) (hs : slots + rm.slots ≤ R.slots) :
    ∃ v T' L, Stand p l e R s m args below meth c T' (locs ++ L) (cells + rm.cells) (slots + rm.slots) ∧ Q v T'.heap L ∧ ∀ target, Steps p.tables e below (T'.setTop { g with pc := g.pc + 3, stack := v.toList ++ rest }) target → Steps p.tables e below (T.setTop g) target := by
  have hZT : Z.Warmed39 T.vm := wtrans hZ X.warmed
  obtain ⟨mz, hnz⟩ := Cond.code_named w4
  have r1 := Cond.methodRef_warmed39 hZT hnz hy w1
  have hown' : (Z.setVm T.vm).vm.findClass own = some m.cls := by
    show T.vm.findClass own = _
    rw [X.warmed.alike.findClass]; exact hown
  obtain ⟨m1, c1, f1, rd, fc, nr⟩ := Cond.methodRef_named e hown' (show (Cond.methodRef own index y).holds a0 (Z.setVm T.vm) none (Z.setVm T.vm) [] = true from r1)
  obtain ⟨mk, methM, hnamed, hmethM, hst, hab⟩ := Cond.instanceMethod_spec (mvT (args := args) hZ w2)
  obtain ⟨methM', cM, hm', -, -, -, -, -, -, hsig⟩ := Cond.code_spec hnamed (mvT (args := args) hZ w4)
  cases hmethM.symm.trans hm'
  have hnT := X.named hnamed
  have hn2 : (Z.setVm T.vm).methodNamed? y = some mk := hnT
  have e1 : m1 = mk := Option.some.inj (f1.symm.trans (State.methodFound?_of_named hn2 hy))
  have e2 : c1 = mk.cls := Option.some.inj (fc.symm.trans (findClass_of_methodNamed hn2))
  subst e1 e2
  obtain ⟨kT, hkT, -⟩ := className_of_methodNamed hnT
  have hmT : T.vm.method? m1 = some methM := by rw [X.warmed.alike.method?]; exact hmethM
  obtain ⟨q1, q2⟩ := name_of_methodNamed hnT hmT
  have hfound : lookupSpecial T.vm m1.cls "<init>" methM.desc = .method m1 := by
    rw [q2, ← hy1]; exact lookupSpecial_of_named hnT hmT hst
  obtain ⟨v, ⟨T', L', k', n'⟩, X', ⟨L, hQ, hl', hk', hn'⟩, hsteps⟩ := (backOf (R := R) (W := W) (p := p) (e := e) (below := below) (s := s) (args := args) (len := 3) hM hZ w4 w3 hf hl) m meth c ⟨T, locs, cells, slots⟩ { g with stack := rest } (.invokespecial index) m1 (.ref a :: argsL).toArray X hg hsize hd hW hnT ⟨rfl, eT, hc, hs⟩
  dsimp only [Pt.U, Pt.locs, Pt.cells, Pt.slots] at X' hl' hk' hn' hsteps hQ
  subst hl' hk' hn'
  refine ⟨v, T', L, X', hQ, fun t k => Steps.trans ?_ k⟩
  refine Steps.trans ?_ hsteps
  subst hg
  jvm_step X.here [hx, hd, invokespecial.wp_init (e := e) (s := T) (k := kT) (meth := methM) (m := m1) (a := a) (args := argsL) (rest := rest) (f := g) X.here.top nr rd hkT hmT (by rw [q1]; exact hy1) hst hab hfound (hlen _ hsig) hstack]
  first | (intro acts; rw [doInvoke_state]; exact Steps.refl _) | exact Steps.refl _
/-- an array of references of the class C -/
def OvA (Z : State) (h : Heap) (a : Addr) (C : String) : Prop := ∃ cl : Cell, h[a]? = some cl ∧ Ovr Z cl.cls C
section OvA
variable {Z : State} {h h' : Heap} {a b : Addr} {C : String} {sl : Nat} {v : Value} {ws : List Addr}
theorem OvA.ext (F : OvA Z h a C) (E : Ext h h') : OvA Z h' a C := by obtain ⟨cl, q, r⟩ := F; exact ⟨cl, E.2 _ _ q, r⟩
theorem OvA.wr (F : OvA Z h a C) (W : Wr h h' b sl v) : OvA Z h' a C := by obtain ⟨cl, q, r⟩ := F; obtain ⟨d, a1, a2, -⟩ := wr_at W q; exact ⟨d, a1, by rw [a2]; exact r⟩
theorem OvA.keep (F : OvA Z h a C) (K : Keep h h' ws) : OvA Z h' a C := by obtain ⟨cl, q, r⟩ := F; obtain ⟨c', q', e, -⟩ := K.2.2 _ _ q; exact ⟨c', q', by rw [e]; exact r⟩
variable {p : Program} {l : Launch} {e : Env} {R : Room} {s : State} {m : MethodId} {args : Array Value} {below : List Frame} {meth : Method} {c : Code} {T : State} {locs : List Loc} {cells slots : Nat} {j : Int32} {i n : Nat} {rest : List Value} {g : JFrame} {f : Nat → Value}
theorem wrR (X : Stand p l e R s m args below meth c T locs cells slots) (hx : p.tables.exec = Jvm.exec) (hZ : Z.Warmed39 s.vm) (eT : T.heap = h) (F : Ara Z h a (.object C) n f) (O : OvA Z h a C) {y : Addr} (I : Ins Z h y C true) (hj0 : ¬ j < 0) (hj : j.toNatClampNeg = i) (hi : i < n) (hg : g.method = m) (hs : g.stack = .ref y :: .int j :: .ref a :: rest) (hd : decode c.code g.pc = .ok (.aastore, 1)) :
    ∃ T' h', Stand p l e R s m args below meth c T' (locs ++ [⟨a, i⟩]) cells slots ∧ T'.heap = h' ∧ Wr h h' a i (.ref y) ∧ ∀ target, Steps p.tables e below (T'.setTop { g with pc := g.pc + 1, stack := rest }) target → Steps p.tables e below (T.setTop g) target := by
  subst hj
  obtain ⟨cl, A, r1, r2, r3⟩ := F
  obtain ⟨cl', q, O⟩ := O
  cases A.1.symm.trans q
  exact stR X hx hZ eT A (hin_of r1 hj0 rfl hi) rfl (Sto.of A O I) hg hs hd
end OvA

-- plain: linear probing over 16 places
/-- every key is reached from its home over places that are taken -/
def Rch (hm : Int64 → Nat) (kf : Nat → Int64) : Prop := ∀ s, s < 16 → kf s ≠ 0 → ∃ j, j < 16 ∧ s = (hm (kf s) + j) % 16 ∧ ∀ d, d < j → kf ((hm (kf s) + d) % 16) ≠ 0
def Dst (kf : Nat → Int64) : Prop := ∀ s t, s < 16 → t < 16 → kf s ≠ 0 → kf s = kf t → s = t
def Few (kf : Nat → Int64) (m : Nat) : Prop := ∃ L : List Nat, L.length ≤ m ∧ ∀ s, s < 16 → kf s ≠ 0 → s ∈ L
/-- where the look for a key ends -/
def Fnd (hm : Int64 → Nat) (kf : Nat → Int64) (key : Int64) (s : Nat) : Prop := ∃ j, j < 16 ∧ s = (hm key + j) % 16 ∧ (kf s = 0 ∨ kf s = key) ∧ ∀ d, d < j → kf ((hm key + d) % 16) ≠ 0 ∧ kf ((hm key + d) % 16) ≠ key
theorem own_pig : ∀ (n : Nat) (L : List Nat), (∀ s, s < n → s ∈ L) → n ≤ L.length := by
  intro n
  induction n with
  | zero => intro L _; exact Nat.zero_le _
  | succ n ih =>
    intro L h
    have hn : n ∈ L := h n (Nat.lt_succ_self n)
    have := ih (L.erase n) (fun s hs => (List.mem_erase_of_ne (by omega)).mpr (h s (by omega)))
    rw [List.length_erase_of_mem hn] at this
    have := List.length_pos_of_mem hn
    omega
theorem Few.free {kf : Nat → Int64} {m : Nat} (h : Few kf m) (hm : m < 16) : ∃ z, z < 16 ∧ kf z = 0 := by
  obtain ⟨L, h1, h2⟩ := h
  apply Classical.byContradiction
  intro q
  have : 16 ≤ L.length := own_pig 16 L (fun s hs => h2 s hs (fun e => q ⟨s, hs, e⟩))
  omega
theorem own_hit {hm : Int64 → Nat} {kf : Nat → Int64} (hr : Rch hm kf) (hd : Dst kf) {key : Int64} (hk : key ≠ 0) {s t : Nat} (hf : Fnd hm kf key s) (ht : t < 16) (e : kf t = key) : s = t := by
  obtain ⟨j, hj, hs, h1, h2⟩ := hf
  obtain ⟨i, hi, hs', h3⟩ := hr t ht (by rw [e]; exact hk)
  rw [e] at hs' h3
  rcases Nat.lt_trichotomy j i with q | q | q
  · have n0 := h3 j q
    rw [← hs] at n0
    exact hd s t (by omega) ht n0 ((h1.resolve_left n0).trans e.symm)
  · subst q; rw [hs, hs']
  · have := (h2 i q).2
    rw [← hs', e] at this
    exact absurd rfl this
/-- the key is there, or it isn't: by what stands where the look ends -/
theorem own_there {hm : Int64 → Nat} {kf : Nat → Int64} (hr : Rch hm kf) (hd : Dst kf) {key : Int64} (hk : key ≠ 0) {s : Nat} (hf : Fnd hm kf key s) : kf s = key ↔ ∃ t, t < 16 ∧ kf t = key := by
  constructor
  · intro e; obtain ⟨j, hj, hs, -⟩ := hf; exact ⟨s, by omega, e⟩
  · intro ⟨t, ht, e⟩; rw [own_hit hr hd hk hf ht e]; exact e
theorem own_fls {hm : Int64 → Nat} {kf : Nat → Int64} {key : Int64} {s : Nat} (hf : Fnd hm kf key s) : s < 16 := by obtain ⟨j, hj, hs, -⟩ := hf; omega
theorem own_lk {hm : Int64 → Nat} {kf : Nat → Int64} {key : Int64} {s : Nat} (hf : Fnd hm kf key s) : kf s = 0 ∨ kf s = key := by obtain ⟨j, hj, hs, h, -⟩ := hf; exact h
/-- a key placed in the free place where its look ends -/
theorem own_place {hm : Int64 → Nat} {kf : Nat → Int64} {m : Nat} (hr : Rch hm kf) (hd : Dst kf) (hw : Few kf m) {key : Int64} (hk : key ≠ 0) {s : Nat} (hf : Fnd hm kf key s) (hs : kf s = 0) : Rch hm (upd kf s key) ∧ Dst (upd kf s key) ∧ Few (upd kf s key) (m + 1) := by
  have hs16 := own_fls hf
  have nz : ∀ t, kf t ≠ 0 → upd kf s key t ≠ 0 := by
    intro t ht
    by_cases q : t = s
    · subst q; rw [upd_hit]; exact hk
    · rw [upd_miss q]; exact ht
  have no : ∀ t, t < 16 → kf t ≠ key := fun t ht e => by
    have := own_hit hr hd hk hf ht e
    subst this
    exact hk (e.symm.trans hs)
  refine ⟨?_, ?_, ?_⟩
  · intro t ht h0
    by_cases q : t = s
    · subst q
      rw [upd_hit]
      obtain ⟨j, hj, e, -, h2⟩ := hf
      exact ⟨j, hj, e, fun d hd => nz _ (h2 d hd).1⟩
    · rw [upd_miss q] at h0 ⊢
      obtain ⟨j, hj, e, h2⟩ := hr t ht h0
      exact ⟨j, hj, e, fun d hd => nz _ (h2 d hd)⟩
  · intro t u ht hu h0 e
    by_cases q : t = s <;> by_cases r : u = s
    · omega
    · subst q; rw [upd_hit, upd_miss r] at e; exact absurd e.symm (no u hu)
    · subst r; rw [upd_hit, upd_miss q] at e; exact absurd e (no t ht)
    · rw [upd_miss q, upd_miss r] at e; rw [upd_miss q] at h0; exact hd t u ht hu h0 e
  · obtain ⟨L, h1, h2⟩ := hw
    refine ⟨s :: L, by simp; omega, fun t ht h0 => ?_⟩
    by_cases q : t = s
    · subst q; exact List.mem_cons_self
    · rw [upd_miss q] at h0; exact List.mem_cons_of_mem _ (h2 t ht h0)
/-- the state of 'free's loop: the place gap is to be emptied; all that lies between gap and next was looked at -/
def Gap (hm : Int64 → Nat) (kf : Nat → Int64) (gap i : Nat) : Prop :=
  gap < 16 ∧ 0 < i ∧ i ≤ 16 ∧ kf gap ≠ 0 ∧ (∀ s, s < 16 → s ≠ gap → kf s ≠ 0 → ∃ j, j < 16 ∧ s = (hm (kf s) + j) % 16 ∧ ∀ d, d < j → kf ((hm (kf s) + d) % 16) ≠ 0) ∧
  (∀ s t, s < 16 → t < 16 → s ≠ gap → t ≠ gap → kf s ≠ 0 → kf s = kf t → s = t) ∧
  (∀ d, 0 < d → d < i → kf ((gap + d) % 16) ≠ 0 ∧ ∃ j, j < d ∧ (gap + d) % 16 = (hm (kf ((gap + d) % 16)) + j) % 16)
/-- the keys that stand elsewhere than at gap, with their values -/
def Oth (kf vf : Nat → Int64) (gap : Nat) (k v : Int64) : Prop := ∃ t, t < 16 ∧ t ≠ gap ∧ kf t = k ∧ vf t = v
theorem own_skip {hm : Int64 → Nat} {kf : Nat → Int64} {gap i : Nat} (hh : ∀ k, hm k < 16) (h : Gap hm kf gap i) (hi : i < 16) (h0 : kf ((gap + i) % 16) ≠ 0) (hc : (((gap + i) % 16 + 16 - hm (kf ((gap + i) % 16))) % 16) < i) : Gap hm kf gap (i + 1) := by
  obtain ⟨g1, g2, g3, g4, g5, g6, g7⟩ := h
  refine ⟨g1, by omega, by omega, g4, g5, g6, fun d d0 d1 => ?_⟩
  by_cases q : d = i
  · subst q
    have := hh (kf ((gap + d) % 16))
    exact ⟨h0, _, hc, by omega⟩
  · exact g7 d d0 (by omega)
theorem own_move {hm : Int64 → Nat} {kf : Nat → Int64} {gap i : Nat} (hh : ∀ k, hm k < 16) (h : Gap hm kf gap i) (hi : i < 16) (h0 : kf ((gap + i) % 16) ≠ 0) (hc : ¬ (((gap + i) % 16 + 16 - hm (kf ((gap + i) % 16))) % 16) < i) : Gap hm (upd kf gap (kf ((gap + i) % 16))) ((gap + i) % 16) 1 := by
  obtain ⟨g1, g2, g3, g4, g5, g6, g7⟩ := h
  have ne : (gap + i) % 16 ≠ gap := by omega
  have nz : ∀ t, kf t ≠ 0 → upd kf gap (kf ((gap + i) % 16)) t ≠ 0 := by
    intro t ht
    by_cases q : t = gap
    · subst q; rw [upd_hit]; exact h0
    · rw [upd_miss q]; exact ht
  refine ⟨by omega, by omega, by omega, by rw [upd_miss ne]; exact h0, fun s hs sg hz => ?_, fun s t hs ht sg tg hz e => ?_, fun d d0 d1 => absurd d1 (by omega)⟩
  · by_cases q : s = gap
    · subst q
      rw [upd_hit]
      obtain ⟨j, hj, e, h2⟩ := g5 ((s + i) % 16) (by omega) ne h0
      have := hh (kf ((s + i) % 16))
      generalize hm (kf ((s + i) % 16)) = hb at *
      have hij : i ≤ j := by omega
      exact ⟨j - i, by omega, by omega, fun d hd => nz _ (h2 d (by omega))⟩
    · rw [upd_miss q] at hz ⊢
      obtain ⟨j, hj, e, h2⟩ := g5 s hs q hz
      exact ⟨j, hj, e, fun d hd => nz _ (h2 d hd)⟩
  · by_cases q : s = gap <;> by_cases r : t = gap
    · omega
    · subst q; rw [upd_hit, upd_miss r] at e; exact absurd (g6 _ _ (by omega) ht ne r h0 e).symm tg
    · subst r; rw [upd_hit, upd_miss q] at e; rw [upd_miss q] at hz; exact absurd (g6 _ _ hs (by omega) q ne hz e) sg
    · rw [upd_miss q, upd_miss r] at e; rw [upd_miss q] at hz; exact g6 _ _ hs ht q r hz e
theorem own_moveO {kf vf : Nat → Int64} {gap nx : Nat} (hg : gap < 16) (hn : nx < 16) (ne : nx ≠ gap) (k v : Int64) : Oth (upd kf gap (kf nx)) (upd vf gap (vf nx)) nx k v ↔ Oth kf vf gap k v := by
  constructor
  · intro ⟨t, ht, tn, e1, e2⟩
    by_cases q : t = gap
    · subst q; rw [upd_hit] at e1 e2; exact ⟨nx, hn, ne, e1, e2⟩
    · rw [upd_miss q] at e1 e2; exact ⟨t, ht, q, e1, e2⟩
  · intro ⟨t, ht, tn, e1, e2⟩
    by_cases q : t = nx
    · subst q; exact ⟨gap, hg, fun z => ne z.symm, by rw [upd_hit]; exact e1, by rw [upd_hit]; exact e2⟩
    · exact ⟨t, ht, q, by rw [upd_miss tn]; exact e1, by rw [upd_miss tn]; exact e2⟩
theorem own_end {hm : Int64 → Nat} {kf : Nat → Int64} {gap i : Nat} (hh : ∀ k, hm k < 16) (h : Gap hm kf gap i) (hi : i < 16) (h0 : kf ((gap + i) % 16) = 0) : Rch hm (upd kf gap 0) ∧ Dst (upd kf gap 0) := by
  obtain ⟨g1, g2, g3, g4, g5, g6, g7⟩ := h
  refine ⟨fun s hs hz => ?_, fun s t hs ht hz e => ?_⟩
  · have q : s ≠ gap := fun q => by subst q; rw [upd_hit] at hz; exact hz rfl
    rw [upd_miss q] at hz ⊢
    obtain ⟨j, hj, e, h2⟩ := g5 s hs q hz
    refine ⟨j, hj, e, fun d hd => ?_⟩
    have hne : (hm (kf s) + d) % 16 ≠ gap := by
      intro eg
      have hb := hh (kf s)
      -- s = gap + x with 0 < x < 16
      have hx : ∃ x, 0 < x ∧ x < 16 ∧ s = (gap + x) % 16 := ⟨(s + 16 - gap) % 16, by omega, by omega, by omega⟩
      obtain ⟨x, x0, x1, ex⟩ := hx
      have hjd : j - d = x := by omega
      by_cases w : x < i
      · obtain ⟨-, y, y1, y2⟩ := g7 x x0 w
        rw [← ex] at y2
        omega
      · -- the road passes the free place
        by_cases w2 : x = i
        · rw [w2] at ex; rw [← ex] at h0; exact hz h0
        · have := h2 (d + i) (by omega)
          rw [show (hm (kf s) + (d + i)) % 16 = (gap + i) % 16 by omega] at this
          exact this h0
    rw [upd_miss hne]
    exact h2 d hd
  · have q : s ≠ gap := fun q => by subst q; rw [upd_hit] at hz; exact hz rfl
    rw [upd_miss q] at hz e
    by_cases r : t = gap
    · subst r; rw [upd_hit] at e; exact absurd e hz
    · rw [upd_miss r] at e; exact g6 s t hs ht q r hz e
theorem own_start {hm : Int64 → Nat} {kf : Nat → Int64} {gap : Nat} (hr : Rch hm kf) (hd : Dst kf) (hg : gap < 16) (h0 : kf gap ≠ 0) : Gap hm kf gap 1 :=
  ⟨hg, by omega, by omega, h0, fun s hs _ hz => hr s hs hz, fun s t hs ht _ _ hz e => hd s t hs ht hz e, fun d d0 d1 => absurd d1 (by omega)⟩
/-- the table bears the key k with the value v -/
def In (kf vf : Nat → Int64) (k v : Int64) : Prop := ∃ s, s < 16 ∧ kf s = k ∧ vf s = v
/-- a part's own law; m: so many operations at the most have been made -/
def PI (hm : Int64 → Nat) (kf vf : Nat → Int64) (t : Int32) (m : Nat) : Prop := Rch hm kf ∧ Dst kf ∧ Few kf m ∧ (∀ s, s < 16 → kf s = 0 → vf s = 0) ∧ -(m : Int) ≤ t.toInt ∧ t.toInt ≤ m
theorem Few.mono {kf : Nat → Int64} {m m' : Nat} (h : Few kf m) (q : m ≤ m') : Few kf m' := by obtain ⟨L, h1, h2⟩ := h; exact ⟨L, by omega, h2⟩
theorem PI.mono {hm : Int64 → Nat} {kf vf : Nat → Int64} {t : Int32} {m m' : Nat} (h : PI hm kf vf t m) (q : m ≤ m') : PI hm kf vf t m' := ⟨h.1, h.2.1, h.2.2.1.mono q, h.2.2.2.1, by have := h.2.2.2.2.1; omega, by have := h.2.2.2.2.2; omega⟩
theorem PI.free {hm : Int64 → Nat} {kf vf : Nat → Int64} {t : Int32} {m : Nat} (h : PI hm kf vf t m) (q : m < 16) : ∃ z, z < 16 ∧ kf z = 0 := h.2.2.1.free q
/-- an entry of the map: the one value of a key -/
theorem In.one {kf vf : Nat → Int64} (hd : Dst kf) {k v : Int64} (hk : k ≠ 0) {s : Nat} (hs : s < 16) (e : kf s = k) : In kf vf k v ↔ vf s = v := by
  constructor
  · intro ⟨t, ht, e1, e2⟩
    rw [hd s t hs ht (by rw [e]; exact hk) (e.trans e1.symm)]; exact e2
  · intro h; exact ⟨s, hs, e, h⟩
theorem own_addNew {hm : Int64 → Nat} {kf vf : Nat → Int64} {t : Int32} {m : Nat} (h : PI hm kf vf t m) (hm16 : m < 15) {key val : Int64} (hk : key ≠ 0) {s : Nat} (hf : Fnd hm kf key s) (h0 : kf s = 0) (t1 : (t + 1).toInt = t.toInt + 1) :
    PI hm (upd kf s key) (upd vf s val) (t + 1) (m + 1) ∧ (∀ v, ¬ In kf vf key v) ∧ ∀ k v, k ≠ 0 → (In (upd kf s key) (upd vf s val) k v ↔ if k = key then v = val else In kf vf k v) := by
  obtain ⟨a1, a2, a3, a4, a5, a6⟩ := h
  have hs := own_fls hf
  obtain ⟨b1, b2, b3⟩ := own_place a1 a2 a3 hk hf h0
  have no : ∀ u, u < 16 → kf u ≠ key := fun u hu e => hk ((own_there a1 a2 hk hf).mpr ⟨u, hu, e⟩ ▸ h0)
  refine ⟨⟨b1, b2, b3, fun u hu e => ?_, by omega, by omega⟩, fun v ⟨u, hu, e, _⟩ => no u hu e, fun k v hk0 => ?_⟩
  · by_cases q : u = s
    · subst q; rw [upd_hit] at e; exact absurd e hk
    · rw [upd_miss q] at e ⊢; exact a4 u hu e
  · by_cases q : k = key
    · subst q
      rw [if_pos rfl, In.one b2 hk hs (upd_hit _ _ _), upd_hit]
      exact eq_comm
    · rw [if_neg q]
      constructor
      · intro ⟨u, hu, e1, e2⟩
        by_cases r : u = s
        · subst r; rw [upd_hit] at e1; exact absurd e1.symm q
        · rw [upd_miss r] at e1 e2; exact ⟨u, hu, e1, e2⟩
      · intro ⟨u, hu, e1, e2⟩
        have r : u ≠ s := fun r => by subst r; rw [h0] at e1; exact hk0 e1.symm
        exact ⟨u, hu, by rw [upd_miss r]; exact e1, by rw [upd_miss r]; exact e2⟩
theorem own_setOld {hm : Int64 → Nat} {kf vf : Nat → Int64} {t : Int32} {m : Nat} (h : PI hm kf vf t m) {key val : Int64} (hk : key ≠ 0) {s : Nat} (hs : s < 16) (h0 : kf s = key) :
    PI hm kf (upd vf s val) t m ∧ ∀ k v, k ≠ 0 → (In kf (upd vf s val) k v ↔ if k = key then v = val else In kf vf k v) := by
  obtain ⟨a1, a2, a3, a4, a5, a6⟩ := h
  refine ⟨⟨a1, a2, a3, fun u hu e => ?_, a5, a6⟩, fun k v hk0 => ?_⟩
  · have r : u ≠ s := fun r => by subst r; exact hk (h0.symm.trans e)
    rw [upd_miss r]; exact a4 u hu e
  · by_cases q : k = key
    · subst q; rw [if_pos rfl, In.one a2 hk hs h0, upd_hit]; exact eq_comm
    · rw [if_neg q]
      constructor
      · intro ⟨u, hu, e1, e2⟩
        have r : u ≠ s := fun r => by subst r; exact q (e1.symm.trans h0)
        rw [upd_miss r] at e2; exact ⟨u, hu, e1, e2⟩
      · intro ⟨u, hu, e1, e2⟩
        have r : u ≠ s := fun r => by subst r; exact q (e1.symm.trans h0)
        exact ⟨u, hu, e1, by rw [upd_miss r]; exact e2⟩
/-- behind 'free': what is left is all but the key that stood at the first gap -/
theorem own_freed {hm : Int64 → Nat} (hh : ∀ k, hm k < 16) {kf vf kg vg : Nat → Int64} {t t' : Int32} {m gap i s : Nat} (h : PI hm kf vf t m) {key : Int64} (hk : key ≠ 0) (hs : s < 16) (h0 : kf s = key)
    (hg : Gap hm kg gap i) (hi : i < 16) (hz : kg ((gap + i) % 16) = 0) (ho : ∀ k v, Oth kg vg gap k v ↔ Oth kf vf s k v) (hfw : ∀ u, u < 16 → kg u ≠ 0 → kf u ≠ 0) (hv : ∀ u, u < 16 → u ≠ gap → kg u = 0 → vg u = 0) (ht : t'.toInt = t.toInt - 1) :
    PI hm (upd kg gap 0) (upd vg gap 0) t' (m + 1) ∧ ∀ k v, k ≠ 0 → (In (upd kg gap 0) (upd vg gap 0) k v ↔ k ≠ key ∧ In kf vf k v) := by
  obtain ⟨a1, a2, a3, a4, a5, a6⟩ := h
  obtain ⟨b1, b2⟩ := own_end hh hg hi hz
  refine ⟨⟨b1, b2, ?_, fun u hu e => ?_, by omega, by omega⟩, fun k v hk0 => ?_⟩
  · obtain ⟨L, c1, c2⟩ := a3
    refine ⟨L, by omega, fun u hu e => ?_⟩
    by_cases q : u = gap
    · subst q; rw [upd_hit] at e; exact absurd rfl e
    · rw [upd_miss q] at e; exact c2 u hu (hfw u hu e)
  · by_cases q : u = gap
    · subst q; rw [upd_hit]
    · rw [upd_miss q] at e ⊢; exact hv u hu q e
  · have e1 : In (upd kg gap 0) (upd vg gap 0) k v ↔ Oth kg vg gap k v := by
      constructor
      · intro ⟨u, hu, f1, f2⟩
        have q : u ≠ gap := fun q => by subst q; rw [upd_hit] at f1; exact hk0 f1.symm
        rw [upd_miss q] at f1 f2; exact ⟨u, hu, q, f1, f2⟩
      · intro ⟨u, hu, q, f1, f2⟩
        exact ⟨u, hu, by rw [upd_miss q]; exact f1, by rw [upd_miss q]; exact f2⟩
    rw [e1, ho]
    constructor
    · intro ⟨u, hu, q, f1, f2⟩
      exact ⟨fun r => q (a2 u s hu hs (by rw [f1, r]; exact hk) (f1.trans (r.trans h0.symm))), u, hu, f1, f2⟩
    · intro ⟨r, u, hu, f1, f2⟩
      exact ⟨u, hu, fun q => r (by rw [← f1, q, h0]), f1, f2⟩

/-- the place where a key is looked for first -/
def hmI (k : Int64) : Int32 := (((((k * (-7046029254386353131 : Int64)) <<< ((6 : Int32) &&& 0x3f).toInt64).toUInt64 >>> ((60 : Int32) &&& 0x3f).toInt64.toUInt64).toInt64).toInt32)
def hm (k : Int64) : Nat := (hmI k).toNatClampNeg
theorem hm_spec (k : Int64) : ¬ hmI k < 0 ∧ (hmI k).toInt < 16 := by
  unfold hmI
  generalize ((k * (-7046029254386353131 : Int64)) <<< ((6 : Int32) &&& 0x3f).toInt64) = x
  have h1 := c_lushr x 60 60 (by decide) (by decide)
  have h2 : 0 ≤ x.toInt % 18446744073709551616 := Int.emod_nonneg _ (by decide)
  have h3 : x.toInt % 18446744073709551616 < 18446744073709551616 := Int.emod_lt_of_pos _ (by decide)
  generalize ((x.toUInt64 >>> ((60 : Int32) &&& 0x3f).toInt64.toUInt64).toInt64) = w at *
  have h4 := c_l2i w
  have h5 := w.toInt32.toInt_lt; have h6 := w.toInt32.le_toInt
  rw [Int32.lt_iff_toInt_lt]
  simp only [Int32.reduceToInt]
  have e : ((2 ^ 60 : Nat) : Int) = 1152921504606846976 := by decide
  rw [e] at h1
  omega
theorem hm_lt (k : Int64) : hm k < 16 := by
  have h := hm_spec k
  have := nat_of h.1
  unfold hm; omega
/-- a place of the sixteen, one further -/
theorem own_nx {s : Int32} (h0 : ¬ s < 0) (h : s.toNatClampNeg < 16) : ¬ ((s + (1 : Int32)) &&& (15 : Int32)) < 0 ∧ ((s + (1 : Int32)) &&& (15 : Int32)).toNatClampNeg = (s.toNatClampNeg + 1) % 16 := by
  have e := nat_of h0
  have a1 : (s + 1).toInt = s.toInt + 1 := by have := c_iadd s 1; have := (s + 1).toInt_lt; have := (s + 1).le_toInt; simp only [Int32.reduceToInt] at *; omega
  have a2 := c_mask (s + 1) 15 4 (by decide) (by decide)
  have a3 : ((2 ^ 4 : Nat) : Int) = 16 := by decide
  rw [a3] at a2
  have a4 : ¬ ((s + (1 : Int32)) &&& (15 : Int32)) < 0 := by rw [Int32.lt_iff_toInt_lt]; simp only [Int32.reduceToInt]; omega
  refine ⟨a4, ?_⟩
  have := nat_of a4
  omega
theorem ef_rm4 (m : MethodId)  : entryFrame m #[(.int (16 : Int32))] 2 = mkF m 0 #[.val (.int (16 : Int32)), .unset] [] := by first | (simp [entryFrame, mkF, argsToLocals, Value.category]; done) | rfl
theorem pn_0 : plainName "java/lang/Integer" = true := by first | (simp [plainName, overriddenIn]; done) | decide +kernel
def Q_rm4 (Z : State)   (h0 : Heap) (n0 : Nat) (v : Option Value) (h : Heap) (L : List Loc) : Prop := v = some (.int (4 : Int32)) ∧ Fr n0 L ∧ h = h0
theorem d4_0 : decode jdk_33_method_48_code 0 = .ok (.iload_n 0, 1) := by decide +kernel
theorem d4_1 : decode jdk_33_method_48_code 1 = .ok (.iconst (-1), 1) := by decide +kernel
theorem d4_2 : decode jdk_33_method_48_code 2 = .ok (.ixor, 1) := by decide +kernel
theorem d4_3 : decode jdk_33_method_48_code 3 = .ok (.iload_n 0, 1) := by decide +kernel
theorem d4_4 : decode jdk_33_method_48_code 4 = .ok (.iconst 1, 1) := by decide +kernel
theorem d4_5 : decode jdk_33_method_48_code 5 = .ok (.isub, 1) := by decide +kernel
theorem d4_6 : decode jdk_33_method_48_code 6 = .ok (.iand, 1) := by decide +kernel
theorem d4_7 : decode jdk_33_method_48_code 7 = .ok (.istore_n 0, 1) := by decide +kernel
theorem d4_8 : decode jdk_33_method_48_code 8 = .ok (.iload_n 0, 1) := by decide +kernel
theorem d4_9 : decode jdk_33_method_48_code 9 = .ok (.ifCond .gt 8, 3) := by decide +kernel
theorem d4_17 : decode jdk_33_method_48_code 17 = .ok (.iconst 1, 1) := by decide +kernel
theorem d4_18 : decode jdk_33_method_48_code 18 = .ok (.istore_n 1, 1) := by decide +kernel
theorem d4_19 : decode jdk_33_method_48_code 19 = .ok (.iload_n 0, 1) := by decide +kernel
theorem d4_20 : decode jdk_33_method_48_code 20 = .ok (.ldc_w 264, 3) := by decide +kernel
theorem d4_23 : decode jdk_33_method_48_code 23 = .ok (.if_icmp .le 11, 3) := by decide +kernel
theorem d4_34 : decode jdk_33_method_48_code 34 = .ok (.iload_n 0, 1) := by decide +kernel
theorem d4_35 : decode jdk_33_method_48_code 35 = .ok (.sipush 256, 3) := by decide +kernel
theorem d4_38 : decode jdk_33_method_48_code 38 = .ok (.if_icmp .le 11, 3) := by decide +kernel
theorem d4_49 : decode jdk_33_method_48_code 49 = .ok (.iload_n 0, 1) := by decide +kernel
theorem d4_50 : decode jdk_33_method_48_code 50 = .ok (.bipush 16, 2) := by decide +kernel
theorem d4_52 : decode jdk_33_method_48_code 52 = .ok (.if_icmp .le 10, 3) := by decide +kernel
theorem d4_62 : decode jdk_33_method_48_code 62 = .ok (.iload_n 0, 1) := by decide +kernel
theorem d4_63 : decode jdk_33_method_48_code 63 = .ok (.iconst 4, 1) := by decide +kernel
theorem d4_64 : decode jdk_33_method_48_code 64 = .ok (.if_icmp .le 10, 3) := by decide +kernel
theorem d4_67 : decode jdk_33_method_48_code 67 = .ok (.iinc 1 2, 3) := by decide +kernel
theorem d4_70 : decode jdk_33_method_48_code 70 = .ok (.iload_n 0, 1) := by decide +kernel
theorem d4_71 : decode jdk_33_method_48_code 71 = .ok (.iconst 2, 1) := by decide +kernel
theorem d4_72 : decode jdk_33_method_48_code 72 = .ok (.iushr, 1) := by decide +kernel
theorem d4_73 : decode jdk_33_method_48_code 73 = .ok (.istore_n 0, 1) := by decide +kernel
theorem d4_74 : decode jdk_33_method_48_code 74 = .ok (.iload_n 1, 1) := by decide +kernel
theorem d4_75 : decode jdk_33_method_48_code 75 = .ok (.iload_n 0, 1) := by decide +kernel
theorem d4_76 : decode jdk_33_method_48_code 76 = .ok (.iconst 1, 1) := by decide +kernel
theorem d4_77 : decode jdk_33_method_48_code 77 = .ok (.iushr, 1) := by decide +kernel
theorem d4_78 : decode jdk_33_method_48_code 78 = .ok (.iadd, 1) := by decide +kernel
theorem d4_79 : decode jdk_33_method_48_code 79 = .ok (.ireturn, 1) := by decide +kernel
set_option maxRecDepth 65536 in
set_option maxHeartbeats 40000000 in
theorem rm4 (l : Launch) (Z : State) (a0 : Array Value) (hw : ∀ d ∈ tables_1, d.before a0 Z = true) (ws : List Jvm.Cond)   (h0 : Heap) (n0 : Nat) (Z0 : n0 ≤ h0.size)  :
    MetFree l (⟨"java/lang/Integer", "numberOfTrailingZeros", "(I)I"⟩ : MethodName) (head1 (Jvm.Cond.code (⟨"java/lang/Integer", "numberOfTrailingZeros", "(I)I"⟩ : MethodName) jdk_33_method_48_code 2 (some .int) :: ws) ({ frames := 0, cells := 0, slots := 0, locals := 0 } : Room)) (fun a U => a = #[(.int (16 : Int32))] ∧ Z.Warmed39 U.vm ∧ U.heap = h0) (fun _ _ _ _ _ => True) (fun _ U o U' => ∃ v L, o = .returned v ∧ (Q_rm4 Z  h0 n0) v U'.heap L ∧ FrameEnd U o U' L ({ frames := 0, cells := 0, slots := 0, locals := 0 } : Room).cells ({ frames := 0, cells := 0, slots := 0, locals := 0 } : Room).slots) := by
  refine MetFree.of_bodySF (plainFor_of_name pn_0) hisR ?_
  intro p e s m args below meth c s₁ Bd hml0 hP hK
  obtain ⟨rfl, hZ, hh⟩ := hP
  have hx := Bd.exec
  have hby := Bd.bytes
  have hml : c.maxLocals = 2 := hml0
  have hown : s.vm.findClass "java/lang/Integer" = some m.cls := findClass_of_methodNamed Bd.named
  have hnm := (name_of_methodNamed Bd.named Bd.method).1
  have X0 : Stand p l e ({ frames := 0, cells := 0, slots := 0, locals := 0 } : Room) s m #[(.int (16 : Int32))] below meth c s₁ [] 0 0 := Stand.of_body Bd
  have e0 : s₁.heap = h0 := by rw [← hh, Bd.state]; rfl
  have N0 := Fr.nil n0
  show OFin p e below (ORet (Q_rm4 Z  h0 n0) s ({ frames := 0, cells := 0, slots := 0, locals := 0 } : Room).cells ({ frames := 0, cells := 0, slots := 0, locals := 0 } : Room).slots) (s₁.setTop (entryFrame m #[(.int (16 : Int32))] 2))
  refine OFin.go (fun t k => castTop (ef_rm4 m ) k) ?_
  show OFin p e below (ORet (Q_rm4 Z  h0 n0) s ({ frames := 0, cells := 0, slots := 0, locals := 0 } : Room).cells ({ frames := 0, cells := 0, slots := 0, locals := 0 } : Room).slots) (s₁.setTop (mkF m 0 #[.val (.int (16 : Int32)), .unset] []))
  have S1 : ∀ t, Steps p.tables e below (s₁.setTop (mkF m 9 #[.val (.int (15 : Int32)), .unset] [(.int (15 : Int32))])) t → Steps p.tables e below (s₁.setTop (mkF m 0 #[.val (.int (16 : Int32)), .unset] [])) t := by
    intro t k
    show Steps p.tables e below (s₁.setTop (mkF m 0 #[.val (.int (16 : Int32)), .unset] [])) t
    refine XS.iloadN X0.here hx rfl (hb hby d4_0) rfl ?_
    show Steps p.tables e below (s₁.setTop (mkF m 1 #[.val (.int (16 : Int32)), .unset] [(.int (16 : Int32))])) t
    refine XS.iconst X0.here hx rfl (hb hby d4_1) ?_
    show Steps p.tables e below (s₁.setTop (mkF m 2 #[.val (.int (16 : Int32)), .unset] [(.int (-1 : Int32)), (.int (16 : Int32))])) t
    refine XS.ixor X0.here hx rfl (hb hby d4_2) rfl ?_
    show Steps p.tables e below (s₁.setTop (mkF m 3 #[.val (.int (16 : Int32)), .unset] [(.int (-17 : Int32))])) t
    refine XS.iloadN X0.here hx rfl (hb hby d4_3) rfl ?_
    show Steps p.tables e below (s₁.setTop (mkF m 4 #[.val (.int (16 : Int32)), .unset] [(.int (16 : Int32)), (.int (-17 : Int32))])) t
    refine XS.iconst X0.here hx rfl (hb hby d4_4) ?_
    show Steps p.tables e below (s₁.setTop (mkF m 5 #[.val (.int (16 : Int32)), .unset] [(.int (1 : Int32)), (.int (16 : Int32)), (.int (-17 : Int32))])) t
    refine XS.isub X0.here hx rfl (hb hby d4_5) rfl ?_
    show Steps p.tables e below (s₁.setTop (mkF m 6 #[.val (.int (16 : Int32)), .unset] [(.int (15 : Int32)), (.int (-17 : Int32))])) t
    refine XS.iand X0.here hx rfl (hb hby d4_6) rfl ?_
    show Steps p.tables e below (s₁.setTop (mkF m 7 #[.val (.int (16 : Int32)), .unset] [(.int (15 : Int32))])) t
    refine XS.istoreN X0.here hx rfl (hb hby d4_7) rfl (l' := #[.val (.int (15 : Int32)), .unset]) rfl ?_
    show Steps p.tables e below (s₁.setTop (mkF m 8 #[.val (.int (15 : Int32)), .unset] [])) t
    refine XS.iloadN X0.here hx rfl (hb hby d4_8) rfl ?_
    exact k
  refine OFin.go S1 ?_
  have S2 : ∀ t, Steps p.tables e below (s₁.setTop (mkF m 17 #[.val (.int (15 : Int32)), .unset] [])) t → Steps p.tables e below (s₁.setTop (mkF m 9 #[.val (.int (15 : Int32)), .unset] [(.int (15 : Int32))])) t := by
    intro t k
    show Steps p.tables e below (s₁.setTop (mkF m 9 #[.val (.int (15 : Int32)), .unset] [(.int (15 : Int32))])) t
    refine XS.ifYes X0.here hx rfl (pc0 := 9) (pc' := 17) rfl (hb hby d4_9) rfl ((if0 _ _).trans (tlt (by decide)).2.2.1) (by decide) (by decide) ?_
    exact k
  refine OFin.go S2 ?_
  have S3 : ∀ t, Steps p.tables e below (s₁.setTop (mkF m 23 #[.val (.int (15 : Int32)), .val (.int (1 : Int32))] [(.int (65536 : Int32)), (.int (15 : Int32))])) t → Steps p.tables e below (s₁.setTop (mkF m 17 #[.val (.int (15 : Int32)), .unset] [])) t := by
    intro t k
    show Steps p.tables e below (s₁.setTop (mkF m 17 #[.val (.int (15 : Int32)), .unset] [])) t
    refine XS.iconst X0.here hx rfl (hb hby d4_17) ?_
    show Steps p.tables e below (s₁.setTop (mkF m 18 #[.val (.int (15 : Int32)), .unset] [(.int (1 : Int32))])) t
    refine XS.istoreN X0.here hx rfl (hb hby d4_18) rfl (l' := #[.val (.int (15 : Int32)), .val (.int (1 : Int32))]) rfl ?_
    show Steps p.tables e below (s₁.setTop (mkF m 19 #[.val (.int (15 : Int32)), .val (.int (1 : Int32))] [])) t
    refine XS.iloadN X0.here hx rfl (hb hby d4_19) rfl ?_
    show Steps p.tables e below (s₁.setTop (mkF m 20 #[.val (.int (15 : Int32)), .val (.int (1 : Int32))] [(.int (15 : Int32))])) t
    refine X0.ldcwInt hx hown (mvT hZ (hw _ (List.mem_of_getElem? (i := 26) rfl))) (g := (mkF m 20 #[.val (.int (15 : Int32)), .val (.int (1 : Int32))] [(.int (15 : Int32))])) rfl (hb hby d4_20) _ ?_
    exact k
  refine OFin.go S3 ?_
  have S4 : ∀ t, Steps p.tables e below (s₁.setTop (mkF m 34 #[.val (.int (15 : Int32)), .val (.int (1 : Int32))] [])) t → Steps p.tables e below (s₁.setTop (mkF m 23 #[.val (.int (15 : Int32)), .val (.int (1 : Int32))] [(.int (65536 : Int32)), (.int (15 : Int32))])) t := by
    intro t k
    show Steps p.tables e below (s₁.setTop (mkF m 23 #[.val (.int (15 : Int32)), .val (.int (1 : Int32))] [(.int (65536 : Int32)), (.int (15 : Int32))])) t
    refine XS.icmpYes X0.here hx rfl (pc0 := 23) (pc' := 34) rfl (hb hby d4_23) rfl (flt (by decide)).2.2.2 (by decide) (by decide) ?_
    exact k
  refine OFin.go S4 ?_
  have S5 : ∀ t, Steps p.tables e below (s₁.setTop (mkF m 38 #[.val (.int (15 : Int32)), .val (.int (1 : Int32))] [(.int (256 : Int32)), (.int (15 : Int32))])) t → Steps p.tables e below (s₁.setTop (mkF m 34 #[.val (.int (15 : Int32)), .val (.int (1 : Int32))] [])) t := by
    intro t k
    show Steps p.tables e below (s₁.setTop (mkF m 34 #[.val (.int (15 : Int32)), .val (.int (1 : Int32))] [])) t
    refine XS.iloadN X0.here hx rfl (hb hby d4_34) rfl ?_
    show Steps p.tables e below (s₁.setTop (mkF m 35 #[.val (.int (15 : Int32)), .val (.int (1 : Int32))] [(.int (15 : Int32))])) t
    refine XS.sipush X0.here hx rfl (hb hby d4_35) ?_
    exact k
  refine OFin.go S5 ?_
  have S6 : ∀ t, Steps p.tables e below (s₁.setTop (mkF m 49 #[.val (.int (15 : Int32)), .val (.int (1 : Int32))] [])) t → Steps p.tables e below (s₁.setTop (mkF m 38 #[.val (.int (15 : Int32)), .val (.int (1 : Int32))] [(.int (256 : Int32)), (.int (15 : Int32))])) t := by
    intro t k
    show Steps p.tables e below (s₁.setTop (mkF m 38 #[.val (.int (15 : Int32)), .val (.int (1 : Int32))] [(.int (256 : Int32)), (.int (15 : Int32))])) t
    refine XS.icmpYes X0.here hx rfl (pc0 := 38) (pc' := 49) rfl (hb hby d4_38) rfl (flt (by decide)).2.2.2 (by decide) (by decide) ?_
    exact k
  refine OFin.go S6 ?_
  have S7 : ∀ t, Steps p.tables e below (s₁.setTop (mkF m 52 #[.val (.int (15 : Int32)), .val (.int (1 : Int32))] [(.int (16 : Int32)), (.int (15 : Int32))])) t → Steps p.tables e below (s₁.setTop (mkF m 49 #[.val (.int (15 : Int32)), .val (.int (1 : Int32))] [])) t := by
    intro t k
    show Steps p.tables e below (s₁.setTop (mkF m 49 #[.val (.int (15 : Int32)), .val (.int (1 : Int32))] [])) t
    refine XS.iloadN X0.here hx rfl (hb hby d4_49) rfl ?_
    show Steps p.tables e below (s₁.setTop (mkF m 50 #[.val (.int (15 : Int32)), .val (.int (1 : Int32))] [(.int (15 : Int32))])) t
    refine XS.bipush X0.here hx rfl (hb hby d4_50) ?_
    exact k
  refine OFin.go S7 ?_
  have S8 : ∀ t, Steps p.tables e below (s₁.setTop (mkF m 62 #[.val (.int (15 : Int32)), .val (.int (1 : Int32))] [])) t → Steps p.tables e below (s₁.setTop (mkF m 52 #[.val (.int (15 : Int32)), .val (.int (1 : Int32))] [(.int (16 : Int32)), (.int (15 : Int32))])) t := by
    intro t k
    show Steps p.tables e below (s₁.setTop (mkF m 52 #[.val (.int (15 : Int32)), .val (.int (1 : Int32))] [(.int (16 : Int32)), (.int (15 : Int32))])) t
    refine XS.icmpYes X0.here hx rfl (pc0 := 52) (pc' := 62) rfl (hb hby d4_52) rfl (flt (by decide)).2.2.2 (by decide) (by decide) ?_
    exact k
  refine OFin.go S8 ?_
  have S9 : ∀ t, Steps p.tables e below (s₁.setTop (mkF m 64 #[.val (.int (15 : Int32)), .val (.int (1 : Int32))] [(.int (4 : Int32)), (.int (15 : Int32))])) t → Steps p.tables e below (s₁.setTop (mkF m 62 #[.val (.int (15 : Int32)), .val (.int (1 : Int32))] [])) t := by
    intro t k
    show Steps p.tables e below (s₁.setTop (mkF m 62 #[.val (.int (15 : Int32)), .val (.int (1 : Int32))] [])) t
    refine XS.iloadN X0.here hx rfl (hb hby d4_62) rfl ?_
    show Steps p.tables e below (s₁.setTop (mkF m 63 #[.val (.int (15 : Int32)), .val (.int (1 : Int32))] [(.int (15 : Int32))])) t
    refine XS.iconst X0.here hx rfl (hb hby d4_63) ?_
    exact k
  refine OFin.go S9 ?_
  have S10 : ∀ t, Steps p.tables e below (s₁.setTop (mkF m 67 #[.val (.int (15 : Int32)), .val (.int (1 : Int32))] [])) t → Steps p.tables e below (s₁.setTop (mkF m 64 #[.val (.int (15 : Int32)), .val (.int (1 : Int32))] [(.int (4 : Int32)), (.int (15 : Int32))])) t := by
    intro t k
    show Steps p.tables e below (s₁.setTop (mkF m 64 #[.val (.int (15 : Int32)), .val (.int (1 : Int32))] [(.int (4 : Int32)), (.int (15 : Int32))])) t
    refine XS.icmpNo X0.here hx rfl (hb hby d4_64) rfl (tlt (by decide)).2.2.2 ?_
    exact k
  refine OFin.go S10 ?_
  have S11 : ∀ t, Steps p.tables e below (s₁.setTop (mkF m 79 #[.val (.int (3 : Int32)), .val (.int (3 : Int32))] [(.int (4 : Int32))])) t → Steps p.tables e below (s₁.setTop (mkF m 67 #[.val (.int (15 : Int32)), .val (.int (1 : Int32))] [])) t := by
    intro t k
    show Steps p.tables e below (s₁.setTop (mkF m 67 #[.val (.int (15 : Int32)), .val (.int (1 : Int32))] [])) t
    refine XS.iinc X0.here hx rfl (hb hby d4_67) rfl (l' := #[.val (.int (15 : Int32)), .val (.int (3 : Int32))]) rfl ?_
    show Steps p.tables e below (s₁.setTop (mkF m 70 #[.val (.int (15 : Int32)), .val (.int (3 : Int32))] [])) t
    refine XS.iloadN X0.here hx rfl (hb hby d4_70) rfl ?_
    show Steps p.tables e below (s₁.setTop (mkF m 71 #[.val (.int (15 : Int32)), .val (.int (3 : Int32))] [(.int (15 : Int32))])) t
    refine XS.iconst X0.here hx rfl (hb hby d4_71) ?_
    show Steps p.tables e below (s₁.setTop (mkF m 72 #[.val (.int (15 : Int32)), .val (.int (3 : Int32))] [(.int (2 : Int32)), (.int (15 : Int32))])) t
    refine XS.iushr X0.here hx rfl (hb hby d4_72) rfl ?_
    show Steps p.tables e below (s₁.setTop (mkF m 73 #[.val (.int (15 : Int32)), .val (.int (3 : Int32))] [(.int (3 : Int32))])) t
    refine XS.istoreN X0.here hx rfl (hb hby d4_73) rfl (l' := #[.val (.int (3 : Int32)), .val (.int (3 : Int32))]) rfl ?_
    show Steps p.tables e below (s₁.setTop (mkF m 74 #[.val (.int (3 : Int32)), .val (.int (3 : Int32))] [])) t
    refine XS.iloadN X0.here hx rfl (hb hby d4_74) rfl ?_
    show Steps p.tables e below (s₁.setTop (mkF m 75 #[.val (.int (3 : Int32)), .val (.int (3 : Int32))] [(.int (3 : Int32))])) t
    refine XS.iloadN X0.here hx rfl (hb hby d4_75) rfl ?_
    show Steps p.tables e below (s₁.setTop (mkF m 76 #[.val (.int (3 : Int32)), .val (.int (3 : Int32))] [(.int (3 : Int32)), (.int (3 : Int32))])) t
    refine XS.iconst X0.here hx rfl (hb hby d4_76) ?_
    show Steps p.tables e below (s₁.setTop (mkF m 77 #[.val (.int (3 : Int32)), .val (.int (3 : Int32))] [(.int (1 : Int32)), (.int (3 : Int32)), (.int (3 : Int32))])) t
    refine XS.iushr X0.here hx rfl (hb hby d4_77) rfl ?_
    show Steps p.tables e below (s₁.setTop (mkF m 78 #[.val (.int (3 : Int32)), .val (.int (3 : Int32))] [(.int (1 : Int32)), (.int (3 : Int32))])) t
    refine XS.iadd X0.here hx rfl (hb hby d4_78) rfl ?_
    exact k
  refine OFin.go S11 ?_
  exact finI X0 hx Bd.notSynchronized Bd.returns (hb hby d4_79) (by decide) (by decide) (⟨rfl, N0, e0⟩)
theorem ef_rm3 (m : MethodId) (o0 : Addr) : entryFrame m #[(.ref o0)] 1 = mkF m 0 #[.val (.ref o0)] [] := by first | (simp [entryFrame, mkF, argsToLocals, Value.category]; done) | rfl
theorem pn_1 : plainName "com/example/clockwrap/clockwrap/store/LongTable$Part" = true := by first | (simp [plainName, overriddenIn]; done) | decide +kernel
def Q_rm3 (Z : State) (o0 : Addr)  (h0 : Heap) (n0 : Nat) (v : Option Value) (h : Heap) (L : List Loc) : Prop := ∃ ka, v = none ∧ Fr n0 L ∧ Keep h0 h [o0] ∧ h0.size ≤ ka ∧ Fld Z h o0 "com/example/clockwrap/clockwrap/store/LongTable$Part" "keys" "[J" (.ref ka) ∧ Fld Z h o0 "com/example/clockwrap/clockwrap/store/LongTable$Part" "shift" "I" (.int (60 : Int32)) ∧ Fld Z h o0 "com/example/clockwrap/clockwrap/store/LongTable$Part" "values" "[J" .null ∧ Fld Z h o0 "com/example/clockwrap/clockwrap/store/LongTable$Part" "taken" "I" (.int (0 : Int32)) ∧ Ara Z h ka .long 16 (fun _ => .long (0 : Int64))
theorem d3_0 : decode prog_33_method_1_code 0 = .ok (.aload_n 0, 1) := by decide +kernel
theorem d3_1 : decode prog_33_method_1_code 1 = .ok (.invokespecial 3, 3) := by decide +kernel
theorem d3_4 : decode prog_33_method_1_code 4 = .ok (.aload_n 0, 1) := by decide +kernel
theorem d3_5 : decode prog_33_method_1_code 5 = .ok (.bipush 16, 2) := by decide +kernel
theorem d3_7 : decode prog_33_method_1_code 7 = .ok (.newarray .long, 2) := by decide +kernel
theorem d3_9 : decode prog_33_method_1_code 9 = .ok (.putfield 11, 3) := by decide +kernel
theorem d3_12 : decode prog_33_method_1_code 12 = .ok (.aload_n 0, 1) := by decide +kernel
theorem d3_13 : decode prog_33_method_1_code 13 = .ok (.bipush 64, 2) := by decide +kernel
theorem d3_15 : decode prog_33_method_1_code 15 = .ok (.bipush 16, 2) := by decide +kernel
theorem pd_0 : parseMethodDescriptor "(I)I" = some ⟨[.int], some .int⟩ := by decide +kernel
theorem d3_17 : decode prog_33_method_1_code 17 = .ok (.invokestatic 17, 3) := by decide +kernel
theorem d3_20 : decode prog_33_method_1_code 20 = .ok (.isub, 1) := by decide +kernel
theorem d3_21 : decode prog_33_method_1_code 21 = .ok (.putfield 23, 3) := by decide +kernel
theorem d3_24 : decode prog_33_method_1_code 24 = .ok (.return_, 1) := by decide +kernel
set_option maxRecDepth 65536 in
set_option maxHeartbeats 40000000 in
theorem rm3 (l : Launch) (Z : State) (a0 : Array Value) (hw : ∀ d ∈ tables_1, d.before a0 Z = true) (ws : List Jvm.Cond) (o0 : Addr)  (h0 : Heap) (n0 : Nat) (Z0 : n0 ≤ h0.size) (ge0 : n0 ≤ o0) (E0 : Exa Z h0 o0 "com/example/clockwrap/clockwrap/store/LongTable$Part") (F_keys : Fld Z h0 o0 "com/example/clockwrap/clockwrap/store/LongTable$Part" "keys" "[J" .null) (F_shift : Fld Z h0 o0 "com/example/clockwrap/clockwrap/store/LongTable$Part" "shift" "I" (.int (0 : Int32))) (F_values : Fld Z h0 o0 "com/example/clockwrap/clockwrap/store/LongTable$Part" "values" "[J" .null) (F_taken : Fld Z h0 o0 "com/example/clockwrap/clockwrap/store/LongTable$Part" "taken" "I" (.int (0 : Int32))) :
    MetFree l (⟨"com/example/clockwrap/clockwrap/store/LongTable$Part", "<init>", "()V"⟩ : MethodName) (head1 (Jvm.Cond.code (⟨"com/example/clockwrap/clockwrap/store/LongTable$Part", "<init>", "()V"⟩ : MethodName) prog_33_method_1_code 1 none :: ws) ({ frames := 1, cells := 1, slots := 16, locals := 20 } : Room)) (fun a U => a = #[(.ref o0)] ∧ Z.Warmed39 U.vm ∧ U.heap = h0) (fun _ _ _ _ _ => True) (fun _ U o U' => ∃ v L, o = .returned v ∧ (Q_rm3 Z o0 h0 n0) v U'.heap L ∧ FrameEnd U o U' L ({ frames := 1, cells := 1, slots := 16, locals := 20 } : Room).cells ({ frames := 1, cells := 1, slots := 16, locals := 20 } : Room).slots) := by
  refine MetFree.of_bodySF (plainFor_of_name pn_1) hisR ?_
  intro p e s m args below meth c s₁ Bd hml0 hP hK
  obtain ⟨rfl, hZ, hh⟩ := hP
  have hx := Bd.exec
  have hby := Bd.bytes
  have hml : c.maxLocals = 1 := hml0
  have hown : s.vm.findClass "com/example/clockwrap/clockwrap/store/LongTable$Part" = some m.cls := findClass_of_methodNamed Bd.named
  have hnm := (name_of_methodNamed Bd.named Bd.method).1
  have X0 : Stand p l e ({ frames := 1, cells := 1, slots := 16, locals := 20 } : Room) s m #[(.ref o0)] below meth c s₁ [] 0 0 := Stand.of_body Bd
  have e0 : s₁.heap = h0 := by rw [← hh, Bd.state]; rfl
  have N0 := Fr.nil n0
  show OFin p e below (ORet (Q_rm3 Z o0 h0 n0) s ({ frames := 1, cells := 1, slots := 16, locals := 20 } : Room).cells ({ frames := 1, cells := 1, slots := 16, locals := 20 } : Room).slots) (s₁.setTop (entryFrame m #[(.ref o0)] 1))
  refine OFin.go (fun t k => castTop (ef_rm3 m o0) k) ?_
  have K0 := Keep.refl h0 [o0]
  show OFin p e below (ORet (Q_rm3 Z o0 h0 n0) s ({ frames := 1, cells := 1, slots := 16, locals := 20 } : Room).cells ({ frames := 1, cells := 1, slots := 16, locals := 20 } : Room).slots) (s₁.setTop (mkF m 0 #[.val (.ref o0)] []))
  have S1 : ∀ t, Steps p.tables e below (s₁.setTop (mkF m 1 #[.val (.ref o0)] [(.ref o0)])) t → Steps p.tables e below (s₁.setTop (mkF m 0 #[.val (.ref o0)] [])) t := by
    intro t k
    show Steps p.tables e below (s₁.setTop (mkF m 0 #[.val (.ref o0)] [])) t
    refine XS.aloadN X0.here hx rfl (hb hby d3_0) rfl rfl ?_
    exact k
  refine OFin.go S1 ?_
  obtain ⟨T2, X2, e2, st2⟩ := initO X0 hx hZ hown (hw _ (List.mem_of_getElem? (i := 18) rfl)) (hw _ (List.mem_of_getElem? (i := 7) rfl)) (hw _ (List.mem_of_getElem? (i := 8) rfl)) e0 (g := (mkF m 1 #[.val (.ref o0)] [(.ref o0)])) rfl (by rw [hml]; rfl) rfl (hb hby d3_1) (by decide) (W := 0) (by show 2 * 0 + _ ≤ _; exact Nat.le_of_eq rfl) (by decide)
  refine OFin.go st2 ?_
  show OFin p e below _ (T2.setTop (mkF m 4 #[.val (.ref o0)] []))
  have S3 : ∀ t, Steps p.tables e below (T2.setTop (mkF m 7 #[.val (.ref o0)] [(.int (16 : Int32)), (.ref o0)])) t → Steps p.tables e below (T2.setTop (mkF m 4 #[.val (.ref o0)] [])) t := by
    intro t k
    show Steps p.tables e below (T2.setTop (mkF m 4 #[.val (.ref o0)] [])) t
    refine XS.aloadN X2.here hx rfl (hb hby d3_4) rfl rfl ?_
    show Steps p.tables e below (T2.setTop (mkF m 5 #[.val (.ref o0)] [(.ref o0)])) t
    refine XS.bipush X2.here hx rfl (hb hby d3_5) ?_
    exact k
  refine OFin.go S3 ?_
  obtain ⟨T4, h4, k4, X4, e4, E4, A4, st4⟩ := newP X2 hx hZ (hw _ (List.mem_of_getElem? (i := 19) rfl)) e2 (g := (mkF m 7 #[.val (.ref o0)] [(.int (16 : Int32)), (.ref o0)])) rfl (hb hby d3_7) rfl (by decide) (cap := 16) (by decide) (by decide) (Nat.le_of_ble_eq_true rfl) (Nat.le_of_ble_eq_true rfl)
  obtain ⟨b4, g4⟩ : ∃ z, z = h0.size := ⟨_, rfl⟩
  rw [← g4] at A4 st4
  have q5 : o0 ≠ b4 := up_lt E0.lt g4
  have ge4 : n0 ≤ b4 := Nat.le_trans Z0 (Nat.le_of_eq g4.symm)
  have Z4 : n0 ≤ h4.size := Nat.le_trans Z0 E4.1
  have sz4 : h0.size ≤ b4 := Nat.le_trans K0.1 (Nat.le_of_eq g4.symm)
  have K4 := Keep.ext K0 E4
  have V4 : Ara Z h4 b4 .long 16 (fun _ => defaultValue .long) := Ara.new A4 rfl
  refine OFin.go st4 ?_
  show OFin p e below _ (T4.setTop (mkF m 9 #[.val (.ref o0)] [(.ref b4), (.ref o0)]))
  have F6 := F_keys.ext E4
  have F7 := E0.ext E4
  obtain ⟨T8, h8, X8, e8, W8, st8⟩ := putF X4 hx hZ hown (host := "") (Or.inl (hw _ (List.mem_of_getElem? (i := 20) rfl))) Via.refl e4 F6 F7 (Or.inl (hw _ (List.mem_of_getElem? (i := 21) rfl))) (hw _ (List.mem_of_getElem? (i := 13) rfl)) (ty := (.array .long)) (by decide) rfl rfl (g := (mkF m 9 #[.val (.ref o0)] [(.ref b4), (.ref o0)])) rfl rfl (hb hby d3_9)
  have Fw8 := F6.same W8
  have N8 := Fr.snoc X8 N0 ge0
  have Z8 : n0 ≤ h8.size := Nat.le_trans Z4 (wr_le W8)
  have K8 := Keep.wr K4 W8 (Or.inl (List.mem_of_getElem? (i := 0) rfl))
  refine OFin.go st8 ?_
  show OFin p e below _ (T8.setTop (mkF m 12 #[.val (.ref o0)] []))
  have S9 : ∀ t, Steps p.tables e below (T8.setTop (mkF m 17 #[.val (.ref o0)] [(.int (16 : Int32)), (.int (64 : Int32)), (.ref o0)])) t → Steps p.tables e below (T8.setTop (mkF m 12 #[.val (.ref o0)] [])) t := by
    intro t k
    show Steps p.tables e below (T8.setTop (mkF m 12 #[.val (.ref o0)] [])) t
    refine XS.aloadN X8.here hx rfl (hb hby d3_12) rfl rfl ?_
    show Steps p.tables e below (T8.setTop (mkF m 13 #[.val (.ref o0)] [(.ref o0)])) t
    refine XS.bipush X8.here hx rfl (hb hby d3_13) ?_
    show Steps p.tables e below (T8.setTop (mkF m 15 #[.val (.ref o0)] [(.int (64 : Int32)), (.ref o0)])) t
    refine XS.bipush X8.here hx rfl (hb hby d3_15) ?_
    exact k
  refine OFin.go S9 ?_
  obtain ⟨_, T10, Lc10, X10, hQ10, st10⟩ := callQ X8 hx hZ (y := (⟨"java/lang/Integer", "numberOfTrailingZeros", "(I)I"⟩ : MethodName)) hown (hw _ (List.mem_of_getElem? (i := 22) rfl)) (hw _ (List.mem_of_getElem? (i := 23) rfl)) (hw _ (List.mem_of_getElem? (i := 24) rfl)) (hw _ (List.mem_of_getElem? (i := 25) rfl)) (by decide) (argsL := [(.int (16 : Int32))]) (rest := [(.int (64 : Int32)), (.ref o0)]) (rm4 l Z a0 hw [] h8 n0 Z8) (W := 2) (by decide) (by decide) e8 (g := (mkF m 17 #[.val (.ref o0)] [(.int (16 : Int32)), (.int (64 : Int32)), (.ref o0)])) rfl (by rw [hml]; rfl) (lenOf pd_0 rfl) rfl (by show 2 * 0 + _ ≤ _; exact Nat.le_of_eq rfl) (hb hby d3_17) (Nat.le_of_ble_eq_true rfl) (Nat.le_of_ble_eq_true rfl)
  obtain ⟨rfl, N10q, e10⟩ := hQ10
  have N10 := Fr.app N8 N10q
  refine OFin.go st10 ?_
  show OFin p e below _ (T10.setTop (mkF m 20 #[.val (.ref o0)] [(.int (4 : Int32)), (.int (64 : Int32)), (.ref o0)]))
  have S11 : ∀ t, Steps p.tables e below (T10.setTop (mkF m 21 #[.val (.ref o0)] [(.int (60 : Int32)), (.ref o0)])) t → Steps p.tables e below (T10.setTop (mkF m 20 #[.val (.ref o0)] [(.int (4 : Int32)), (.int (64 : Int32)), (.ref o0)])) t := by
    intro t k
    show Steps p.tables e below (T10.setTop (mkF m 20 #[.val (.ref o0)] [(.int (4 : Int32)), (.int (64 : Int32)), (.ref o0)])) t
    refine XS.isub X10.here hx rfl (hb hby d3_20) rfl ?_
    exact k
  refine OFin.go S11 ?_
  have F12 := F_shift.ext E4
  have F13 := F12.other W8 (Or.inr (slot_ne (Or.inl (hw _ (List.mem_of_getElem? (i := 28) rfl))) (Or.inl (hw _ (List.mem_of_getElem? (i := 21) rfl))) (by decide) (t := .int) (t' := (.array .long)) (by decide) (by decide)))
  have F14 := F7.wr W8
  obtain ⟨T15, h15, X15, e15, W15, st15⟩ := putF X10 hx hZ hown (host := "") (Or.inl (hw _ (List.mem_of_getElem? (i := 27) rfl))) Via.refl e10 F13 F14 (Or.inl (hw _ (List.mem_of_getElem? (i := 28) rfl))) (hw _ (List.mem_of_getElem? (i := 13) rfl)) (ty := .int) (by decide) rfl rfl (g := (mkF m 21 #[.val (.ref o0)] [(.int (60 : Int32)), (.ref o0)])) rfl rfl (hb hby d3_21)
  have Fw15 := F13.same W15
  have N15 := Fr.snoc X15 N10 ge0
  have Z15 : n0 ≤ h15.size := Nat.le_trans Z8 (wr_le W15)
  have K15 := Keep.wr K8 W15 (Or.inl (List.mem_of_getElem? (i := 0) rfl))
  refine OFin.go st15 ?_
  show OFin p e below _ (T15.setTop (mkF m 24 #[.val (.ref o0)] []))
  have F16 := Fw8.other W15 (Or.inr (slot_ne (Or.inl (hw _ (List.mem_of_getElem? (i := 21) rfl))) (Or.inl (hw _ (List.mem_of_getElem? (i := 28) rfl))) (by decide) (t := (.array .long)) (t' := .int) (by decide) (by decide)))
  have F17 := F_values.ext E4
  have F18 := F17.other W8 (Or.inr (slot_ne (Or.inl (hw _ (List.mem_of_getElem? (i := 77) rfl))) (Or.inl (hw _ (List.mem_of_getElem? (i := 21) rfl))) (by decide) (t := (.array .long)) (t' := (.array .long)) (by decide) (by decide)))
  have F19 := F18.other W15 (Or.inr (slot_ne (Or.inl (hw _ (List.mem_of_getElem? (i := 77) rfl))) (Or.inl (hw _ (List.mem_of_getElem? (i := 28) rfl))) (by decide) (t := (.array .long)) (t' := .int) (by decide) (by decide)))
  have F20 := F_taken.ext E4
  have F21 := F20.other W8 (Or.inr (slot_ne (Or.inl (hw _ (List.mem_of_getElem? (i := 79) rfl))) (Or.inl (hw _ (List.mem_of_getElem? (i := 21) rfl))) (by decide) (t := .int) (t' := (.array .long)) (by decide) (by decide)))
  have F22 := F21.other W15 (Or.inr (slot_ne (Or.inl (hw _ (List.mem_of_getElem? (i := 79) rfl))) (Or.inl (hw _ (List.mem_of_getElem? (i := 28) rfl))) (by decide) (t := .int) (t' := .int) (by decide) (by decide)))
  have F23 := V4.other W8 (Ne.symm q5)
  have F24 := F23.other W15 (Ne.symm q5)
  exact finV X15 hx Bd.notSynchronized Bd.returns (hb hby d3_24) (by decide) (by decide) (by rw [e15]; exact ⟨b4, rfl, N15, K15, sz4, F16, Fw15, F19, F22, F24⟩)
theorem ef_rm11 (m : MethodId) (o0 : Addr) (key : Int64) : entryFrame m #[(.ref o0), (.long key)] 3 = mkF m 0 #[.val (.ref o0), .val (.long key), .second] [] := by first | (simp [entryFrame, mkF, argsToLocals, Value.category]; done) | rfl
def Q_rm11 (Z : State) (o0 : Addr) (key : Int64)  (h0 : Heap) (n0 : Nat) (v : Option Value) (h : Heap) (L : List Loc) : Prop := v = some (.int (hmI key)) ∧ Fr n0 L ∧ h = h0
theorem d11_0 : decode prog_33_method_9_code 0 = .ok (.lload_n 1, 1) := by decide +kernel
theorem d11_1 : decode prog_33_method_9_code 1 = .ok (.ldc2_w 51, 3) := by decide +kernel
theorem d11_4 : decode prog_33_method_9_code 4 = .ok (.lmul, 1) := by decide +kernel
theorem d11_5 : decode prog_33_method_9_code 5 = .ok (.bipush 6, 2) := by decide +kernel
theorem d11_7 : decode prog_33_method_9_code 7 = .ok (.lshl, 1) := by decide +kernel
theorem d11_8 : decode prog_33_method_9_code 8 = .ok (.aload_n 0, 1) := by decide +kernel
theorem d11_9 : decode prog_33_method_9_code 9 = .ok (.getfield 23, 3) := by decide +kernel
theorem d11_12 : decode prog_33_method_9_code 12 = .ok (.lushr, 1) := by decide +kernel
theorem d11_13 : decode prog_33_method_9_code 13 = .ok (.l2i, 1) := by decide +kernel
theorem d11_14 : decode prog_33_method_9_code 14 = .ok (.ireturn, 1) := by decide +kernel
set_option maxRecDepth 65536 in
set_option maxHeartbeats 40000000 in
theorem rm11 (l : Launch) (Z : State) (a0 : Array Value) (hw : ∀ d ∈ tables_1, d.before a0 Z = true) (ws : List Jvm.Cond) (o0 : Addr) (key : Int64)  (h0 : Heap) (n0 : Nat) (Z0 : n0 ≤ h0.size) (Fs : Fld Z h0 o0 "com/example/clockwrap/clockwrap/store/LongTable$Part" "shift" "I" (.int (60 : Int32))) :
    MetFree l (⟨"com/example/clockwrap/clockwrap/store/LongTable$Part", "home", "(J)I"⟩ : MethodName) (head1 (Jvm.Cond.code (⟨"com/example/clockwrap/clockwrap/store/LongTable$Part", "home", "(J)I"⟩ : MethodName) prog_33_method_9_code 3 (some .int) :: ws) ({ frames := 0, cells := 0, slots := 0, locals := 0 } : Room)) (fun a U => a = #[(.ref o0), (.long key)] ∧ Z.Warmed39 U.vm ∧ U.heap = h0) (fun _ _ _ _ _ => True) (fun _ U o U' => ∃ v L, o = .returned v ∧ (Q_rm11 Z o0 key h0 n0) v U'.heap L ∧ FrameEnd U o U' L ({ frames := 0, cells := 0, slots := 0, locals := 0 } : Room).cells ({ frames := 0, cells := 0, slots := 0, locals := 0 } : Room).slots) := by
  refine MetFree.of_bodySF (plainFor_of_name pn_1) hisR ?_
  intro p e s m args below meth c s₁ Bd hml0 hP hK
  obtain ⟨rfl, hZ, hh⟩ := hP
  have hx := Bd.exec
  have hby := Bd.bytes
  have hml : c.maxLocals = 3 := hml0
  have hown : s.vm.findClass "com/example/clockwrap/clockwrap/store/LongTable$Part" = some m.cls := findClass_of_methodNamed Bd.named
  have hnm := (name_of_methodNamed Bd.named Bd.method).1
  have X0 : Stand p l e ({ frames := 0, cells := 0, slots := 0, locals := 0 } : Room) s m #[(.ref o0), (.long key)] below meth c s₁ [] 0 0 := Stand.of_body Bd
  have e0 : s₁.heap = h0 := by rw [← hh, Bd.state]; rfl
  have N0 := Fr.nil n0
  show OFin p e below (ORet (Q_rm11 Z o0 key h0 n0) s ({ frames := 0, cells := 0, slots := 0, locals := 0 } : Room).cells ({ frames := 0, cells := 0, slots := 0, locals := 0 } : Room).slots) (s₁.setTop (entryFrame m #[(.ref o0), (.long key)] 3))
  refine OFin.go (fun t k => castTop (ef_rm11 m o0 key) k) ?_
  show OFin p e below (ORet (Q_rm11 Z o0 key h0 n0) s ({ frames := 0, cells := 0, slots := 0, locals := 0 } : Room).cells ({ frames := 0, cells := 0, slots := 0, locals := 0 } : Room).slots) (s₁.setTop (mkF m 0 #[.val (.ref o0), .val (.long key), .second] []))
  have S1 : ∀ t, Steps p.tables e below (s₁.setTop (mkF m 9 #[.val (.ref o0), .val (.long key), .second] [(.ref o0), (.long ((key * (-7046029254386353131 : Int64)) <<< ((6 : Int32) &&& 0x3f).toInt64))])) t → Steps p.tables e below (s₁.setTop (mkF m 0 #[.val (.ref o0), .val (.long key), .second] [])) t := by
    intro t k
    show Steps p.tables e below (s₁.setTop (mkF m 0 #[.val (.ref o0), .val (.long key), .second] [])) t
    refine XS.lloadN X0.here hx rfl (hb hby d11_0) rfl ?_
    show Steps p.tables e below (s₁.setTop (mkF m 1 #[.val (.ref o0), .val (.long key), .second] [(.long key)])) t
    refine X0.ldc2Long hx hown (mvT hZ (hw _ (List.mem_of_getElem? (i := 61) rfl))) (g := (mkF m 1 #[.val (.ref o0), .val (.long key), .second] [(.long key)])) rfl (hb hby d11_1) _ ?_
    show Steps p.tables e below (s₁.setTop (mkF m 4 #[.val (.ref o0), .val (.long key), .second] [(.long (-7046029254386353131 : Int64)), (.long key)])) t
    refine XS.lmul X0.here hx rfl (hb hby d11_4) rfl ?_
    show Steps p.tables e below (s₁.setTop (mkF m 5 #[.val (.ref o0), .val (.long key), .second] [(.long (key * (-7046029254386353131 : Int64)))])) t
    refine XS.bipush X0.here hx rfl (hb hby d11_5) ?_
    show Steps p.tables e below (s₁.setTop (mkF m 7 #[.val (.ref o0), .val (.long key), .second] [(.int (6 : Int32)), (.long (key * (-7046029254386353131 : Int64)))])) t
    refine XS.lshl X0.here hx rfl (hb hby d11_7) rfl ?_
    show Steps p.tables e below (s₁.setTop (mkF m 8 #[.val (.ref o0), .val (.long key), .second] [(.long ((key * (-7046029254386353131 : Int64)) <<< ((6 : Int32) &&& 0x3f).toInt64))])) t
    refine XS.aloadN X0.here hx rfl (hb hby d11_8) rfl rfl ?_
    exact k
  refine OFin.go S1 ?_
  obtain ⟨T2, X2, e2, st2⟩ := getF X0 hx hZ hown (host := "") (Or.inl (hw _ (List.mem_of_getElem? (i := 27) rfl))) Via.refl e0 Fs (g := (mkF m 9 #[.val (.ref o0), .val (.long key), .second] [(.ref o0), (.long ((key * (-7046029254386353131 : Int64)) <<< ((6 : Int32) &&& 0x3f).toInt64))])) rfl rfl (hb hby d11_9)
  refine OFin.go st2 ?_
  show OFin p e below _ (T2.setTop (mkF m 12 #[.val (.ref o0), .val (.long key), .second] [(.int (60 : Int32)), (.long ((key * (-7046029254386353131 : Int64)) <<< ((6 : Int32) &&& 0x3f).toInt64))]))
  have S3 : ∀ t, Steps p.tables e below (T2.setTop (mkF m 14 #[.val (.ref o0), .val (.long key), .second] [(.int (((((key * (-7046029254386353131 : Int64)) <<< ((6 : Int32) &&& 0x3f).toInt64).toUInt64 >>> ((60 : Int32) &&& 0x3f).toInt64.toUInt64).toInt64).toInt32))])) t → Steps p.tables e below (T2.setTop (mkF m 12 #[.val (.ref o0), .val (.long key), .second] [(.int (60 : Int32)), (.long ((key * (-7046029254386353131 : Int64)) <<< ((6 : Int32) &&& 0x3f).toInt64))])) t := by
    intro t k
    show Steps p.tables e below (T2.setTop (mkF m 12 #[.val (.ref o0), .val (.long key), .second] [(.int (60 : Int32)), (.long ((key * (-7046029254386353131 : Int64)) <<< ((6 : Int32) &&& 0x3f).toInt64))])) t
    refine XS.lushr X2.here hx rfl (hb hby d11_12) rfl ?_
    show Steps p.tables e below (T2.setTop (mkF m 13 #[.val (.ref o0), .val (.long key), .second] [(.long ((((key * (-7046029254386353131 : Int64)) <<< ((6 : Int32) &&& 0x3f).toInt64).toUInt64 >>> ((60 : Int32) &&& 0x3f).toInt64.toUInt64).toInt64))])) t
    refine XS.l2i X2.here hx rfl (hb hby d11_13) rfl ?_
    exact k
  refine OFin.go S3 ?_
  exact finI X2 hx Bd.notSynchronized Bd.returns (hb hby d11_14) (by decide) (by decide) (⟨rfl, N0, e2⟩)
theorem ef_rm10 (m : MethodId) (o0 : Addr) (key : Int64) : entryFrame m #[(.ref o0), (.long key)] 5 = mkF m 0 #[.val (.ref o0), .val (.long key), .second, .unset, .unset] [] := by first | (simp [entryFrame, mkF, argsToLocals, Value.category]; done) | rfl
def Q_rm10 (Z : State) (o0 : Addr) (key : Int64) (ka : Addr) (kf : Nat → Int64) (h0 : Heap) (n0 : Nat) (v : Option Value) (h : Heap) (L : List Loc) : Prop := ∃ sl : Int32, v = some (.int sl) ∧ Fr n0 L ∧ h = h0 ∧ ¬ sl < 0 ∧ Fnd hm kf key sl.toNatClampNeg
theorem d10_0 : decode prog_33_method_8_code 0 = .ok (.aload_n 0, 1) := by decide +kernel
theorem d10_1 : decode prog_33_method_8_code 1 = .ok (.getfield 11, 3) := by decide +kernel
theorem d10_4 : decode prog_33_method_8_code 4 = .ok (.arraylength, 1) := by decide +kernel
theorem d10_5 : decode prog_33_method_8_code 5 = .ok (.iconst 1, 1) := by decide +kernel
theorem d10_6 : decode prog_33_method_8_code 6 = .ok (.isub, 1) := by decide +kernel
theorem d10_7 : decode prog_33_method_8_code 7 = .ok (.istore_n 3, 1) := by decide +kernel
theorem d10_8 : decode prog_33_method_8_code 8 = .ok (.aload_n 0, 1) := by decide +kernel
theorem d10_9 : decode prog_33_method_8_code 9 = .ok (.lload_n 1, 1) := by decide +kernel
theorem pd_1 : parseMethodDescriptor "(J)I" = some ⟨[.long], some .int⟩ := by decide +kernel
theorem d10_10 : decode prog_33_method_8_code 10 = .ok (.invokevirtual 48, 3) := by decide +kernel
theorem d10_13 : decode prog_33_method_8_code 13 = .ok (.istore 4, 2) := by decide +kernel
theorem d10_15 : decode prog_33_method_8_code 15 = .ok (.aload_n 0, 1) := by decide +kernel
theorem d10_16 : decode prog_33_method_8_code 16 = .ok (.getfield 11, 3) := by decide +kernel
theorem d10_19 : decode prog_33_method_8_code 19 = .ok (.iload 4, 2) := by decide +kernel
theorem d10_21 : decode prog_33_method_8_code 21 = .ok (.laload, 1) := by decide +kernel
theorem d10_22 : decode prog_33_method_8_code 22 = .ok (.lconst 0, 1) := by decide +kernel
theorem d10_23 : decode prog_33_method_8_code 23 = .ok (.lcmp, 1) := by decide +kernel
theorem d10_24 : decode prog_33_method_8_code 24 = .ok (.ifCond .eq 26, 3) := by decide +kernel
theorem d10_50 : decode prog_33_method_8_code 50 = .ok (.iload 4, 2) := by decide +kernel
theorem d10_52 : decode prog_33_method_8_code 52 = .ok (.ireturn, 1) := by decide +kernel
theorem d10_27 : decode prog_33_method_8_code 27 = .ok (.aload_n 0, 1) := by decide +kernel
theorem d10_28 : decode prog_33_method_8_code 28 = .ok (.getfield 11, 3) := by decide +kernel
theorem d10_31 : decode prog_33_method_8_code 31 = .ok (.iload 4, 2) := by decide +kernel
theorem d10_33 : decode prog_33_method_8_code 33 = .ok (.laload, 1) := by decide +kernel
theorem d10_34 : decode prog_33_method_8_code 34 = .ok (.lload_n 1, 1) := by decide +kernel
theorem d10_35 : decode prog_33_method_8_code 35 = .ok (.lcmp, 1) := by decide +kernel
theorem d10_36 : decode prog_33_method_8_code 36 = .ok (.ifCond .eq 14, 3) := by decide +kernel
theorem d10_39 : decode prog_33_method_8_code 39 = .ok (.iload 4, 2) := by decide +kernel
theorem d10_41 : decode prog_33_method_8_code 41 = .ok (.iconst 1, 1) := by decide +kernel
theorem d10_42 : decode prog_33_method_8_code 42 = .ok (.iadd, 1) := by decide +kernel
theorem d10_43 : decode prog_33_method_8_code 43 = .ok (.iload_n 3, 1) := by decide +kernel
theorem d10_44 : decode prog_33_method_8_code 44 = .ok (.iand, 1) := by decide +kernel
theorem d10_45 : decode prog_33_method_8_code 45 = .ok (.istore 4, 2) := by decide +kernel
theorem d10_47 : decode prog_33_method_8_code 47 = .ok (.goto (-32), 3) := by decide +kernel
set_option maxRecDepth 65536 in
set_option maxHeartbeats 40000000 in
theorem rm10 (l : Launch) (Z : State) (a0 : Array Value) (hw : ∀ d ∈ tables_1, d.before a0 Z = true) (ws : List Jvm.Cond) (o0 : Addr) (key : Int64) (ka : Addr) (kf : Nat → Int64) (h0 : Heap) (n0 : Nat) (Z0 : n0 ≤ h0.size) (E0 : Exa Z h0 o0 "com/example/clockwrap/clockwrap/store/LongTable$Part") (Fs : Fld Z h0 o0 "com/example/clockwrap/clockwrap/store/LongTable$Part" "shift" "I" (.int (60 : Int32))) (Fk : Fld Z h0 o0 "com/example/clockwrap/clockwrap/store/LongTable$Part" "keys" "[J" (.ref ka)) (Va : Ara Z h0 ka .long 16 (fun i => .long (kf i))) (hz : ∃ z, z < 16 ∧ kf z = 0) :
    MetFree l (⟨"com/example/clockwrap/clockwrap/store/LongTable$Part", "slot", "(J)I"⟩ : MethodName) (head1 (Jvm.Cond.code (⟨"com/example/clockwrap/clockwrap/store/LongTable$Part", "slot", "(J)I"⟩ : MethodName) prog_33_method_8_code 5 (some .int) :: ws) ({ frames := 1, cells := 0, slots := 0, locals := 14 } : Room)) (fun a U => a = #[(.ref o0), (.long key)] ∧ Z.Warmed39 U.vm ∧ U.heap = h0) (fun _ _ _ _ _ => True) (fun _ U o U' => ∃ v L, o = .returned v ∧ (Q_rm10 Z o0 key ka kf h0 n0) v U'.heap L ∧ FrameEnd U o U' L ({ frames := 1, cells := 0, slots := 0, locals := 14 } : Room).cells ({ frames := 1, cells := 0, slots := 0, locals := 14 } : Room).slots) := by
  refine MetFree.of_bodySF (plainFor_of_name pn_1) hisR ?_
  intro p e s m args below meth c s₁ Bd hml0 hP hK
  obtain ⟨rfl, hZ, hh⟩ := hP
  have hx := Bd.exec
  have hby := Bd.bytes
  have hml : c.maxLocals = 5 := hml0
  have hown : s.vm.findClass "com/example/clockwrap/clockwrap/store/LongTable$Part" = some m.cls := findClass_of_methodNamed Bd.named
  have hnm := (name_of_methodNamed Bd.named Bd.method).1
  have X0 : Stand p l e ({ frames := 1, cells := 0, slots := 0, locals := 14 } : Room) s m #[(.ref o0), (.long key)] below meth c s₁ [] 0 0 := Stand.of_body Bd
  have e0 : s₁.heap = h0 := by rw [← hh, Bd.state]; rfl
  have N0 := Fr.nil n0
  show OFin p e below (ORet (Q_rm10 Z o0 key ka kf h0 n0) s ({ frames := 1, cells := 0, slots := 0, locals := 14 } : Room).cells ({ frames := 1, cells := 0, slots := 0, locals := 14 } : Room).slots) (s₁.setTop (entryFrame m #[(.ref o0), (.long key)] 5))
  refine OFin.go (fun t k => castTop (ef_rm10 m o0 key) k) ?_
  obtain ⟨dz, hdz, hz0⟩ : ∃ dz, dz < 16 ∧ kf ((hm key + dz) % 16) = 0 := by
    obtain ⟨z, hz1, hz2⟩ := hz
    have := hm_lt key
    exact ⟨(z + 16 - hm key) % 16, by omega, by rw [show (hm key + (z + 16 - hm key) % 16) % 16 = z by omega]; exact hz2⟩
  show OFin p e below (ORet (Q_rm10 Z o0 key ka kf h0 n0) s ({ frames := 1, cells := 0, slots := 0, locals := 14 } : Room).cells ({ frames := 1, cells := 0, slots := 0, locals := 14 } : Room).slots) (s₁.setTop (mkF m 0 #[.val (.ref o0), .val (.long key), .second, .unset, .unset] []))
  have S1 : ∀ t, Steps p.tables e below (s₁.setTop (mkF m 1 #[.val (.ref o0), .val (.long key), .second, .unset, .unset] [(.ref o0)])) t → Steps p.tables e below (s₁.setTop (mkF m 0 #[.val (.ref o0), .val (.long key), .second, .unset, .unset] [])) t := by
    intro t k
    show Steps p.tables e below (s₁.setTop (mkF m 0 #[.val (.ref o0), .val (.long key), .second, .unset, .unset] [])) t
    refine XS.aloadN X0.here hx rfl (hb hby d10_0) rfl rfl ?_
    exact k
  refine OFin.go S1 ?_
  obtain ⟨T2, X2, e2, st2⟩ := getF X0 hx hZ hown (host := "") (Or.inl (hw _ (List.mem_of_getElem? (i := 20) rfl))) Via.refl e0 Fk (g := (mkF m 1 #[.val (.ref o0), .val (.long key), .second, .unset, .unset] [(.ref o0)])) rfl rfl (hb hby d10_1)
  refine OFin.go st2 ?_
  show OFin p e below _ (T2.setTop (mkF m 4 #[.val (.ref o0), .val (.long key), .second, .unset, .unset] [(.ref ka)]))
  have S3 : ∀ t, Steps p.tables e below (T2.setTop (mkF m 10 #[.val (.ref o0), .val (.long key), .second, .val (.int (15 : Int32)), .unset] [(.long key), (.ref o0)])) t → Steps p.tables e below (T2.setTop (mkF m 4 #[.val (.ref o0), .val (.long key), .second, .unset, .unset] [(.ref ka)])) t := by
    intro t k
    show Steps p.tables e below (T2.setTop (mkF m 4 #[.val (.ref o0), .val (.long key), .second, .unset, .unset] [(.ref ka)])) t
    refine alen X2 hx hZ e2 Va (z := (16 : Int32)) rfl (g := (mkF m 4 #[.val (.ref o0), .val (.long key), .second, .unset, .unset] [(.ref ka)])) rfl rfl (hb hby d10_4) ?_
    show Steps p.tables e below (T2.setTop (mkF m 5 #[.val (.ref o0), .val (.long key), .second, .unset, .unset] [(.int (16 : Int32))])) t
    refine XS.iconst X2.here hx rfl (hb hby d10_5) ?_
    show Steps p.tables e below (T2.setTop (mkF m 6 #[.val (.ref o0), .val (.long key), .second, .unset, .unset] [(.int (1 : Int32)), (.int (16 : Int32))])) t
    refine XS.isub X2.here hx rfl (hb hby d10_6) rfl ?_
    show Steps p.tables e below (T2.setTop (mkF m 7 #[.val (.ref o0), .val (.long key), .second, .unset, .unset] [(.int (15 : Int32))])) t
    refine XS.istoreN X2.here hx rfl (hb hby d10_7) rfl (l' := #[.val (.ref o0), .val (.long key), .second, .val (.int (15 : Int32)), .unset]) rfl ?_
    show Steps p.tables e below (T2.setTop (mkF m 8 #[.val (.ref o0), .val (.long key), .second, .val (.int (15 : Int32)), .unset] [])) t
    refine XS.aloadN X2.here hx rfl (hb hby d10_8) rfl rfl ?_
    show Steps p.tables e below (T2.setTop (mkF m 9 #[.val (.ref o0), .val (.long key), .second, .val (.int (15 : Int32)), .unset] [(.ref o0)])) t
    refine XS.lloadN X2.here hx rfl (hb hby d10_9) rfl ?_
    exact k
  refine OFin.go S3 ?_
  obtain ⟨_, T4, Lc4, X4, hQ4, st4⟩ := privQ X2 hx hZ (y := (⟨"com/example/clockwrap/clockwrap/store/LongTable$Part", "home", "(J)I"⟩ : MethodName)) hown (hw _ (List.mem_of_getElem? (i := 57) rfl)) (hw _ (List.mem_of_getElem? (i := 58) rfl)) (hw _ (List.mem_of_getElem? (i := 14) rfl)) (hw _ (List.mem_of_getElem? (i := 60) rfl)) (hw _ (List.mem_of_getElem? (i := 59) rfl)) (hw _ (List.mem_of_getElem? (i := 13) rfl)) (by decide) E0 (argsL := [(.long key)]) (rest := []) (rm11 l Z a0 hw [] o0 key h0 n0 Z0 Fs) (W := 0) (by decide) (by decide) e2 (g := (mkF m 10 #[.val (.ref o0), .val (.long key), .second, .val (.int (15 : Int32)), .unset] [(.long key), (.ref o0)])) rfl (by rw [hml]; rfl) (lenOf pd_1 rfl) rfl (by show 2 * 0 + _ ≤ _; exact Nat.le_of_eq rfl) (hb hby d10_10) (Nat.le_of_ble_eq_true rfl) (Nat.le_of_ble_eq_true rfl)
  obtain ⟨rfl, N4q, e4⟩ := hQ4
  have N4 := Fr.app N0 N4q
  refine OFin.go st4 ?_
  show OFin p e below _ (T4.setTop (mkF m 13 #[.val (.ref o0), .val (.long key), .second, .val (.int (15 : Int32)), .unset] [(.int (hmI key))]))
  have S5 : ∀ t, Steps p.tables e below (T4.setTop (mkF m 15 #[.val (.ref o0), .val (.long key), .second, .val (.int (15 : Int32)), .val (.int (hmI key))] [])) t → Steps p.tables e below (T4.setTop (mkF m 13 #[.val (.ref o0), .val (.long key), .second, .val (.int (15 : Int32)), .unset] [(.int (hmI key))])) t := by
    intro t k
    show Steps p.tables e below (T4.setTop (mkF m 13 #[.val (.ref o0), .val (.long key), .second, .val (.int (15 : Int32)), .unset] [(.int (hmI key))])) t
    refine XS.istore X4.here hx rfl (hb hby d10_13) rfl (l' := #[.val (.ref o0), .val (.long key), .second, .val (.int (15 : Int32)), .val (.int (hmI key))]) rfl ?_
    exact k
  refine OFin.go S5 ?_
  have LOOP6 : ∀ (k : Nat) (Tk : State) (lo_ : List Loc) (ce_ sl_ : Nat) (Xk : Stand p l e ({ frames := 1, cells := 0, slots := 0, locals := 14 } : Room) s m #[(.ref o0), (.long key)] below meth c Tk lo_ ce_ sl_) (ek : Tk.heap = h0) (Nk : Fr n0 lo_) (hce_ : ce_ ≤ ({ frames := 1, cells := 0, slots := 0, locals := 14 } : Room).cells) (hsl_ : sl_ ≤ ({ frames := 1, cells := 0, slots := 0, locals := 14 } : Room).slots) (sl : Int32), (∃ j, j + k = dz ∧ ¬ sl < 0 ∧ sl.toNatClampNeg = (hm key + j) % 16 ∧ ∀ d, d < j → kf ((hm key + d) % 16) ≠ 0 ∧ kf ((hm key + d) % 16) ≠ key) → OFin p e below (ORet (Q_rm10 Z o0 key ka kf h0 n0) s ({ frames := 1, cells := 0, slots := 0, locals := 14 } : Room).cells ({ frames := 1, cells := 0, slots := 0, locals := 14 } : Room).slots) (Tk.setTop (mkF m 15 #[.val (.ref o0), .val (.long key), .second, .val (.int (15 : Int32)), .val (.int sl)] [])) := by
    intro k
    induction k with
    | zero =>
      intro Tk lo_ ce_ sl_ Xk ek Nk hce_ hsl_ sl  hinv
      obtain ⟨j, hj, hs0, hsl, hbe⟩ := hinv
      have S7 : ∀ t, Steps p.tables e below (Tk.setTop (mkF m 16 #[.val (.ref o0), .val (.long key), .second, .val (.int (15 : Int32)), .val (.int sl)] [(.ref o0)])) t → Steps p.tables e below (Tk.setTop (mkF m 15 #[.val (.ref o0), .val (.long key), .second, .val (.int (15 : Int32)), .val (.int sl)] [])) t := by
        intro t k
        show Steps p.tables e below (Tk.setTop (mkF m 15 #[.val (.ref o0), .val (.long key), .second, .val (.int (15 : Int32)), .val (.int sl)] [])) t
        refine XS.aloadN Xk.here hx rfl (hb hby d10_15) rfl rfl ?_
        exact k
      refine OFin.go S7 ?_
      obtain ⟨T8, X8, e8, st8⟩ := getF Xk hx hZ hown (host := "") (Or.inl (hw _ (List.mem_of_getElem? (i := 20) rfl))) Via.refl ek Fk (g := (mkF m 16 #[.val (.ref o0), .val (.long key), .second, .val (.int (15 : Int32)), .val (.int sl)] [(.ref o0)])) rfl rfl (hb hby d10_16)
      refine OFin.go st8 ?_
      show OFin p e below _ (T8.setTop (mkF m 19 #[.val (.ref o0), .val (.long key), .second, .val (.int (15 : Int32)), .val (.int sl)] [(.ref ka)]))
      have S9 : ∀ t, Steps p.tables e below (T8.setTop (mkF m 24 #[.val (.ref o0), .val (.long key), .second, .val (.int (15 : Int32)), .val (.int sl)] [(.int (lcmpW (kf sl.toNatClampNeg) (0 : Int64)))])) t → Steps p.tables e below (T8.setTop (mkF m 19 #[.val (.ref o0), .val (.long key), .second, .val (.int (15 : Int32)), .val (.int sl)] [(.ref ka)])) t := by
        intro t k
        show Steps p.tables e below (T8.setTop (mkF m 19 #[.val (.ref o0), .val (.long key), .second, .val (.int (15 : Int32)), .val (.int sl)] [(.ref ka)])) t
        refine XS.iload X8.here hx rfl (hb hby d10_19) rfl ?_
        show Steps p.tables e below (T8.setTop (mkF m 21 #[.val (.ref o0), .val (.long key), .second, .val (.int (15 : Int32)), .val (.int sl)] [(.int sl), (.ref ka)])) t
        refine rdJ X8 hx hZ e8 Va (i := sl.toNatClampNeg) hs0 rfl (by omega) (x := (.long (kf sl.toNatClampNeg))) rfl (g := (mkF m 21 #[.val (.ref o0), .val (.long key), .second, .val (.int (15 : Int32)), .val (.int sl)] [(.int sl), (.ref ka)])) rfl rfl (hb hby d10_21) ?_
        show Steps p.tables e below (T8.setTop (mkF m 22 #[.val (.ref o0), .val (.long key), .second, .val (.int (15 : Int32)), .val (.int sl)] [(.long (kf sl.toNatClampNeg))])) t
        refine XS.lconst X8.here hx rfl (hb hby d10_22) ?_
        show Steps p.tables e below (T8.setTop (mkF m 23 #[.val (.ref o0), .val (.long key), .second, .val (.int (15 : Int32)), .val (.int sl)] [(.long (0 : Int64)), (.long (kf sl.toNatClampNeg))])) t
        refine XS.lcmp X8.here hx rfl (hb hby d10_23) rfl ?_
        exact k
      refine OFin.go S9 ?_
      have S10 : ∀ t, Steps p.tables e below (T8.setTop (mkF m 50 #[.val (.ref o0), .val (.long key), .second, .val (.int (15 : Int32)), .val (.int sl)] [])) t → Steps p.tables e below (T8.setTop (mkF m 24 #[.val (.ref o0), .val (.long key), .second, .val (.int (15 : Int32)), .val (.int sl)] [(.int (lcmpW (kf sl.toNatClampNeg) (0 : Int64)))])) t := by
        intro t k
        show Steps p.tables e below (T8.setTop (mkF m 24 #[.val (.ref o0), .val (.long key), .second, .val (.int (15 : Int32)), .val (.int sl)] [(.int (lcmpW (kf sl.toNatClampNeg) (0 : Int64)))])) t
        refine XS.ifYes X8.here hx rfl (pc0 := 24) (pc' := 50) rfl (hb hby d10_24) rfl (lc_eq_t (by rw [hsl, show j = dz by omega]; exact hz0)) (by decide) (by decide) ?_
        exact k
      refine OFin.go S10 ?_
      have S11 : ∀ t, Steps p.tables e below (T8.setTop (mkF m 52 #[.val (.ref o0), .val (.long key), .second, .val (.int (15 : Int32)), .val (.int sl)] [(.int sl)])) t → Steps p.tables e below (T8.setTop (mkF m 50 #[.val (.ref o0), .val (.long key), .second, .val (.int (15 : Int32)), .val (.int sl)] [])) t := by
        intro t k
        show Steps p.tables e below (T8.setTop (mkF m 50 #[.val (.ref o0), .val (.long key), .second, .val (.int (15 : Int32)), .val (.int sl)] [])) t
        refine XS.iload X8.here hx rfl (hb hby d10_50) rfl ?_
        exact k
      refine OFin.go S11 ?_
      exact finI X8 hx Bd.notSynchronized Bd.returns (hb hby d10_52) hce_ hsl_ (⟨sl, rfl, Nk, e8, hs0, j, by omega, hsl, Or.inl (by rw [hsl, show j = dz by omega]; exact hz0), hbe⟩)
    | succ k ih =>
      intro Tk lo_ ce_ sl_ Xk ek Nk hce_ hsl_ sl  hinv
      obtain ⟨j, hj, hs0, hsl, hbe⟩ := hinv
      have S12 : ∀ t, Steps p.tables e below (Tk.setTop (mkF m 16 #[.val (.ref o0), .val (.long key), .second, .val (.int (15 : Int32)), .val (.int sl)] [(.ref o0)])) t → Steps p.tables e below (Tk.setTop (mkF m 15 #[.val (.ref o0), .val (.long key), .second, .val (.int (15 : Int32)), .val (.int sl)] [])) t := by
        intro t k
        show Steps p.tables e below (Tk.setTop (mkF m 15 #[.val (.ref o0), .val (.long key), .second, .val (.int (15 : Int32)), .val (.int sl)] [])) t
        refine XS.aloadN Xk.here hx rfl (hb hby d10_15) rfl rfl ?_
        exact k
      refine OFin.go S12 ?_
      obtain ⟨T13, X13, e13, st13⟩ := getF Xk hx hZ hown (host := "") (Or.inl (hw _ (List.mem_of_getElem? (i := 20) rfl))) Via.refl ek Fk (g := (mkF m 16 #[.val (.ref o0), .val (.long key), .second, .val (.int (15 : Int32)), .val (.int sl)] [(.ref o0)])) rfl rfl (hb hby d10_16)
      refine OFin.go st13 ?_
      show OFin p e below _ (T13.setTop (mkF m 19 #[.val (.ref o0), .val (.long key), .second, .val (.int (15 : Int32)), .val (.int sl)] [(.ref ka)]))
      have S14 : ∀ t, Steps p.tables e below (T13.setTop (mkF m 24 #[.val (.ref o0), .val (.long key), .second, .val (.int (15 : Int32)), .val (.int sl)] [(.int (lcmpW (kf sl.toNatClampNeg) (0 : Int64)))])) t → Steps p.tables e below (T13.setTop (mkF m 19 #[.val (.ref o0), .val (.long key), .second, .val (.int (15 : Int32)), .val (.int sl)] [(.ref ka)])) t := by
        intro t k
        show Steps p.tables e below (T13.setTop (mkF m 19 #[.val (.ref o0), .val (.long key), .second, .val (.int (15 : Int32)), .val (.int sl)] [(.ref ka)])) t
        refine XS.iload X13.here hx rfl (hb hby d10_19) rfl ?_
        show Steps p.tables e below (T13.setTop (mkF m 21 #[.val (.ref o0), .val (.long key), .second, .val (.int (15 : Int32)), .val (.int sl)] [(.int sl), (.ref ka)])) t
        refine rdJ X13 hx hZ e13 Va (i := sl.toNatClampNeg) hs0 rfl (by omega) (x := (.long (kf sl.toNatClampNeg))) rfl (g := (mkF m 21 #[.val (.ref o0), .val (.long key), .second, .val (.int (15 : Int32)), .val (.int sl)] [(.int sl), (.ref ka)])) rfl rfl (hb hby d10_21) ?_
        show Steps p.tables e below (T13.setTop (mkF m 22 #[.val (.ref o0), .val (.long key), .second, .val (.int (15 : Int32)), .val (.int sl)] [(.long (kf sl.toNatClampNeg))])) t
        refine XS.lconst X13.here hx rfl (hb hby d10_22) ?_
        show Steps p.tables e below (T13.setTop (mkF m 23 #[.val (.ref o0), .val (.long key), .second, .val (.int (15 : Int32)), .val (.int sl)] [(.long (0 : Int64)), (.long (kf sl.toNatClampNeg))])) t
        refine XS.lcmp X13.here hx rfl (hb hby d10_23) rfl ?_
        exact k
      refine OFin.go S14 ?_
      by_cases h15 : ((kf sl.toNatClampNeg) = (0 : Int64))
      · -- pc 24: ((kf sl.toNatClampNeg) = (0 : Int64))
        have S16 : ∀ t, Steps p.tables e below (T13.setTop (mkF m 50 #[.val (.ref o0), .val (.long key), .second, .val (.int (15 : Int32)), .val (.int sl)] [])) t → Steps p.tables e below (T13.setTop (mkF m 24 #[.val (.ref o0), .val (.long key), .second, .val (.int (15 : Int32)), .val (.int sl)] [(.int (lcmpW (kf sl.toNatClampNeg) (0 : Int64)))])) t := by
          intro t k
          show Steps p.tables e below (T13.setTop (mkF m 24 #[.val (.ref o0), .val (.long key), .second, .val (.int (15 : Int32)), .val (.int sl)] [(.int (lcmpW (kf sl.toNatClampNeg) (0 : Int64)))])) t
          refine XS.ifYes X13.here hx rfl (pc0 := 24) (pc' := 50) rfl (hb hby d10_24) rfl (lc_eq_t h15) (by decide) (by decide) ?_
          exact k
        refine OFin.go S16 ?_
        have S17 : ∀ t, Steps p.tables e below (T13.setTop (mkF m 52 #[.val (.ref o0), .val (.long key), .second, .val (.int (15 : Int32)), .val (.int sl)] [(.int sl)])) t → Steps p.tables e below (T13.setTop (mkF m 50 #[.val (.ref o0), .val (.long key), .second, .val (.int (15 : Int32)), .val (.int sl)] [])) t := by
          intro t k
          show Steps p.tables e below (T13.setTop (mkF m 50 #[.val (.ref o0), .val (.long key), .second, .val (.int (15 : Int32)), .val (.int sl)] [])) t
          refine XS.iload X13.here hx rfl (hb hby d10_50) rfl ?_
          exact k
        refine OFin.go S17 ?_
        exact finI X13 hx Bd.notSynchronized Bd.returns (hb hby d10_52) hce_ hsl_ (⟨sl, rfl, Nk, e13, hs0, j, by omega, hsl, Or.inl h15, hbe⟩)
      · -- pc 24: not ((kf sl.toNatClampNeg) = (0 : Int64))
        have S18 : ∀ t, Steps p.tables e below (T13.setTop (mkF m 27 #[.val (.ref o0), .val (.long key), .second, .val (.int (15 : Int32)), .val (.int sl)] [])) t → Steps p.tables e below (T13.setTop (mkF m 24 #[.val (.ref o0), .val (.long key), .second, .val (.int (15 : Int32)), .val (.int sl)] [(.int (lcmpW (kf sl.toNatClampNeg) (0 : Int64)))])) t := by
          intro t k
          show Steps p.tables e below (T13.setTop (mkF m 24 #[.val (.ref o0), .val (.long key), .second, .val (.int (15 : Int32)), .val (.int sl)] [(.int (lcmpW (kf sl.toNatClampNeg) (0 : Int64)))])) t
          refine XS.ifNo X13.here hx rfl (hb hby d10_24) rfl (lc_eq_f h15) ?_
          exact k
        refine OFin.go S18 ?_
        have S19 : ∀ t, Steps p.tables e below (T13.setTop (mkF m 28 #[.val (.ref o0), .val (.long key), .second, .val (.int (15 : Int32)), .val (.int sl)] [(.ref o0)])) t → Steps p.tables e below (T13.setTop (mkF m 27 #[.val (.ref o0), .val (.long key), .second, .val (.int (15 : Int32)), .val (.int sl)] [])) t := by
          intro t k
          show Steps p.tables e below (T13.setTop (mkF m 27 #[.val (.ref o0), .val (.long key), .second, .val (.int (15 : Int32)), .val (.int sl)] [])) t
          refine XS.aloadN X13.here hx rfl (hb hby d10_27) rfl rfl ?_
          exact k
        refine OFin.go S19 ?_
        obtain ⟨T20, X20, e20, st20⟩ := getF X13 hx hZ hown (host := "") (Or.inl (hw _ (List.mem_of_getElem? (i := 20) rfl))) Via.refl e13 Fk (g := (mkF m 28 #[.val (.ref o0), .val (.long key), .second, .val (.int (15 : Int32)), .val (.int sl)] [(.ref o0)])) rfl rfl (hb hby d10_28)
        refine OFin.go st20 ?_
        show OFin p e below _ (T20.setTop (mkF m 31 #[.val (.ref o0), .val (.long key), .second, .val (.int (15 : Int32)), .val (.int sl)] [(.ref ka)]))
        have S21 : ∀ t, Steps p.tables e below (T20.setTop (mkF m 36 #[.val (.ref o0), .val (.long key), .second, .val (.int (15 : Int32)), .val (.int sl)] [(.int (lcmpW (kf sl.toNatClampNeg) key))])) t → Steps p.tables e below (T20.setTop (mkF m 31 #[.val (.ref o0), .val (.long key), .second, .val (.int (15 : Int32)), .val (.int sl)] [(.ref ka)])) t := by
          intro t k
          show Steps p.tables e below (T20.setTop (mkF m 31 #[.val (.ref o0), .val (.long key), .second, .val (.int (15 : Int32)), .val (.int sl)] [(.ref ka)])) t
          refine XS.iload X20.here hx rfl (hb hby d10_31) rfl ?_
          show Steps p.tables e below (T20.setTop (mkF m 33 #[.val (.ref o0), .val (.long key), .second, .val (.int (15 : Int32)), .val (.int sl)] [(.int sl), (.ref ka)])) t
          refine rdJ X20 hx hZ e20 Va (i := sl.toNatClampNeg) hs0 rfl (by omega) (x := (.long (kf sl.toNatClampNeg))) rfl (g := (mkF m 33 #[.val (.ref o0), .val (.long key), .second, .val (.int (15 : Int32)), .val (.int sl)] [(.int sl), (.ref ka)])) rfl rfl (hb hby d10_33) ?_
          show Steps p.tables e below (T20.setTop (mkF m 34 #[.val (.ref o0), .val (.long key), .second, .val (.int (15 : Int32)), .val (.int sl)] [(.long (kf sl.toNatClampNeg))])) t
          refine XS.lloadN X20.here hx rfl (hb hby d10_34) rfl ?_
          show Steps p.tables e below (T20.setTop (mkF m 35 #[.val (.ref o0), .val (.long key), .second, .val (.int (15 : Int32)), .val (.int sl)] [(.long key), (.long (kf sl.toNatClampNeg))])) t
          refine XS.lcmp X20.here hx rfl (hb hby d10_35) rfl ?_
          exact k
        refine OFin.go S21 ?_
        by_cases h22 : ((kf sl.toNatClampNeg) = key)
        · -- pc 36: ((kf sl.toNatClampNeg) = key)
          have S23 : ∀ t, Steps p.tables e below (T20.setTop (mkF m 50 #[.val (.ref o0), .val (.long key), .second, .val (.int (15 : Int32)), .val (.int sl)] [])) t → Steps p.tables e below (T20.setTop (mkF m 36 #[.val (.ref o0), .val (.long key), .second, .val (.int (15 : Int32)), .val (.int sl)] [(.int (lcmpW (kf sl.toNatClampNeg) key))])) t := by
            intro t k
            show Steps p.tables e below (T20.setTop (mkF m 36 #[.val (.ref o0), .val (.long key), .second, .val (.int (15 : Int32)), .val (.int sl)] [(.int (lcmpW (kf sl.toNatClampNeg) key))])) t
            refine XS.ifYes X20.here hx rfl (pc0 := 36) (pc' := 50) rfl (hb hby d10_36) rfl (lc_eq_t h22) (by decide) (by decide) ?_
            exact k
          refine OFin.go S23 ?_
          have S24 : ∀ t, Steps p.tables e below (T20.setTop (mkF m 52 #[.val (.ref o0), .val (.long key), .second, .val (.int (15 : Int32)), .val (.int sl)] [(.int sl)])) t → Steps p.tables e below (T20.setTop (mkF m 50 #[.val (.ref o0), .val (.long key), .second, .val (.int (15 : Int32)), .val (.int sl)] [])) t := by
            intro t k
            show Steps p.tables e below (T20.setTop (mkF m 50 #[.val (.ref o0), .val (.long key), .second, .val (.int (15 : Int32)), .val (.int sl)] [])) t
            refine XS.iload X20.here hx rfl (hb hby d10_50) rfl ?_
            exact k
          refine OFin.go S24 ?_
          exact finI X20 hx Bd.notSynchronized Bd.returns (hb hby d10_52) hce_ hsl_ (⟨sl, rfl, Nk, e20, hs0, j, by omega, hsl, Or.inr h22, hbe⟩)
        · -- pc 36: not ((kf sl.toNatClampNeg) = key)
          have S25 : ∀ t, Steps p.tables e below (T20.setTop (mkF m 39 #[.val (.ref o0), .val (.long key), .second, .val (.int (15 : Int32)), .val (.int sl)] [])) t → Steps p.tables e below (T20.setTop (mkF m 36 #[.val (.ref o0), .val (.long key), .second, .val (.int (15 : Int32)), .val (.int sl)] [(.int (lcmpW (kf sl.toNatClampNeg) key))])) t := by
            intro t k
            show Steps p.tables e below (T20.setTop (mkF m 36 #[.val (.ref o0), .val (.long key), .second, .val (.int (15 : Int32)), .val (.int sl)] [(.int (lcmpW (kf sl.toNatClampNeg) key))])) t
            refine XS.ifNo X20.here hx rfl (hb hby d10_36) rfl (lc_eq_f h22) ?_
            exact k
          refine OFin.go S25 ?_
          have S26 : ∀ t, Steps p.tables e below (T20.setTop (mkF m 15 #[.val (.ref o0), .val (.long key), .second, .val (.int (15 : Int32)), .val (.int ((sl + (1 : Int32)) &&& (15 : Int32)))] [])) t → Steps p.tables e below (T20.setTop (mkF m 39 #[.val (.ref o0), .val (.long key), .second, .val (.int (15 : Int32)), .val (.int sl)] [])) t := by
            intro t k
            show Steps p.tables e below (T20.setTop (mkF m 39 #[.val (.ref o0), .val (.long key), .second, .val (.int (15 : Int32)), .val (.int sl)] [])) t
            refine XS.iload X20.here hx rfl (hb hby d10_39) rfl ?_
            show Steps p.tables e below (T20.setTop (mkF m 41 #[.val (.ref o0), .val (.long key), .second, .val (.int (15 : Int32)), .val (.int sl)] [(.int sl)])) t
            refine XS.iconst X20.here hx rfl (hb hby d10_41) ?_
            show Steps p.tables e below (T20.setTop (mkF m 42 #[.val (.ref o0), .val (.long key), .second, .val (.int (15 : Int32)), .val (.int sl)] [(.int (1 : Int32)), (.int sl)])) t
            refine XS.iadd X20.here hx rfl (hb hby d10_42) rfl ?_
            show Steps p.tables e below (T20.setTop (mkF m 43 #[.val (.ref o0), .val (.long key), .second, .val (.int (15 : Int32)), .val (.int sl)] [(.int (sl + (1 : Int32)))])) t
            refine XS.iloadN X20.here hx rfl (hb hby d10_43) rfl ?_
            show Steps p.tables e below (T20.setTop (mkF m 44 #[.val (.ref o0), .val (.long key), .second, .val (.int (15 : Int32)), .val (.int sl)] [(.int (15 : Int32)), (.int (sl + (1 : Int32)))])) t
            refine XS.iand X20.here hx rfl (hb hby d10_44) rfl ?_
            show Steps p.tables e below (T20.setTop (mkF m 45 #[.val (.ref o0), .val (.long key), .second, .val (.int (15 : Int32)), .val (.int sl)] [(.int ((sl + (1 : Int32)) &&& (15 : Int32)))])) t
            refine XS.istore X20.here hx rfl (hb hby d10_45) rfl (l' := #[.val (.ref o0), .val (.long key), .second, .val (.int (15 : Int32)), .val (.int ((sl + (1 : Int32)) &&& (15 : Int32)))]) rfl ?_
            show Steps p.tables e below (T20.setTop (mkF m 47 #[.val (.ref o0), .val (.long key), .second, .val (.int (15 : Int32)), .val (.int ((sl + (1 : Int32)) &&& (15 : Int32)))] [])) t
            refine XS.goto X20.here hx rfl (pc0 := 47) (pc' := 15) rfl (hb hby d10_47) (by decide) (by decide) ?_
            exact k
          refine OFin.go S26 ?_
          exact ih T20 _ _ _ X20 e20 Nk (by first | assumption | decide) (by first | assumption | decide) ((sl + (1 : Int32)) &&& (15 : Int32)) ⟨j + 1, by omega, (own_nx hs0 (by omega)).1, by rw [(own_nx hs0 (by omega)).2]; omega, fun d hd => by
      by_cases q : d = j
      · subst q; rw [← hsl]; exact ⟨h15, h22⟩
      · exact hbe d (by omega)⟩ 
  exact LOOP6 dz _ _ _ _ X4 e4 N4 (by decide) (by decide) (hmI key) ⟨0, by omega, (hm_spec key).1, by show hm key = _; have := hm_lt key; omega, fun d hd => absurd hd (by omega)⟩
theorem own_updl (kf : Nat → Int64) (s : Nat) (k : Int64) (i : Nat) : upd (fun i => Value.long (kf i)) s (.long k) i = .long (upd kf s k i) := by
  unfold upd; dsimp only; split <;> rfl
theorem ef_rm14_n (m : MethodId) (o0 : Addr) (u1 : Int32) (key : Int64) (val : Int64) : entryFrame m #[(.ref o0), (.int u1), (.long key), (.long val)] 6 = mkF m 0 #[.val (.ref o0), .val (.int u1), .val (.long key), .second, .val (.long val), .second] [] := by first | (simp [entryFrame, mkF, argsToLocals, Value.category]; done) | rfl
def Q_rm14_n (Z : State) (o0 : Addr) (u1 : Int32) (key : Int64) (val : Int64) (ka : Addr) (kf vf : Nat → Int64) (tk : Int32) (h0 : Heap) (n0 : Nat) (v : Option Value) (h : Heap) (L : List Loc) : Prop := v = none ∧ Fr n0 L ∧ Keep h0 h [o0, ka] ∧ Exa Z h o0 "com/example/clockwrap/clockwrap/store/LongTable$Part" ∧ Fld Z h o0 "com/example/clockwrap/clockwrap/store/LongTable$Part" "keys" "[J" (.ref ka) ∧ Fld Z h o0 "com/example/clockwrap/clockwrap/store/LongTable$Part" "values" "[J" .null ∧ Fld Z h o0 "com/example/clockwrap/clockwrap/store/LongTable$Part" "shift" "I" (.int (60 : Int32)) ∧ Fld Z h o0 "com/example/clockwrap/clockwrap/store/LongTable$Part" "taken" "I" (.int (tk + (1 : Int32))) ∧ Ara Z h ka .long 16 (fun i => .long ((upd kf u1.toNatClampNeg key) i))
theorem d14_0 : decode prog_33_method_7_code 0 = .ok (.aload_n 0, 1) := by decide +kernel
theorem d14_1 : decode prog_33_method_7_code 1 = .ok (.getfield 11, 3) := by decide +kernel
theorem d14_4 : decode prog_33_method_7_code 4 = .ok (.iload_n 1, 1) := by decide +kernel
theorem d14_5 : decode prog_33_method_7_code 5 = .ok (.lload_n 2, 1) := by decide +kernel
theorem d14_6 : decode prog_33_method_7_code 6 = .ok (.lastore, 1) := by decide +kernel
theorem d14_7 : decode prog_33_method_7_code 7 = .ok (.aload_n 0, 1) := by decide +kernel
theorem d14_8 : decode prog_33_method_7_code 8 = .ok (.getfield 35, 3) := by decide +kernel
theorem d14_11 : decode prog_33_method_7_code 11 = .ok (.ifnull 11, 3) := by decide +kernel
theorem d14_22 : decode prog_33_method_7_code 22 = .ok (.aload_n 0, 1) := by decide +kernel
theorem d14_23 : decode prog_33_method_7_code 23 = .ok (.dup, 1) := by decide +kernel
theorem d14_24 : decode prog_33_method_7_code 24 = .ok (.getfield 42, 3) := by decide +kernel
theorem d14_27 : decode prog_33_method_7_code 27 = .ok (.iconst 1, 1) := by decide +kernel
theorem d14_28 : decode prog_33_method_7_code 28 = .ok (.iadd, 1) := by decide +kernel
theorem d14_29 : decode prog_33_method_7_code 29 = .ok (.putfield 42, 3) := by decide +kernel
theorem d14_32 : decode prog_33_method_7_code 32 = .ok (.aload_n 0, 1) := by decide +kernel
theorem d14_33 : decode prog_33_method_7_code 33 = .ok (.getfield 42, 3) := by decide +kernel
theorem d14_36 : decode prog_33_method_7_code 36 = .ok (.aload_n 0, 1) := by decide +kernel
theorem d14_37 : decode prog_33_method_7_code 37 = .ok (.getfield 11, 3) := by decide +kernel
theorem d14_40 : decode prog_33_method_7_code 40 = .ok (.arraylength, 1) := by decide +kernel
theorem d14_41 : decode prog_33_method_7_code 41 = .ok (.iconst 4, 1) := by decide +kernel
theorem d14_42 : decode prog_33_method_7_code 42 = .ok (.idiv, 1) := by decide +kernel
theorem d14_43 : decode prog_33_method_7_code 43 = .ok (.iconst 3, 1) := by decide +kernel
theorem d14_44 : decode prog_33_method_7_code 44 = .ok (.imul, 1) := by decide +kernel
theorem d14_45 : decode prog_33_method_7_code 45 = .ok (.if_icmp .le 7, 3) := by decide +kernel
theorem d14_52 : decode prog_33_method_7_code 52 = .ok (.return_, 1) := by decide +kernel
set_option maxRecDepth 65536 in
set_option maxHeartbeats 40000000 in
theorem rm14_n (l : Launch) (Z : State) (a0 : Array Value) (hw : ∀ d ∈ tables_1, d.before a0 Z = true) (ws : List Jvm.Cond) (o0 : Addr) (u1 : Int32) (key : Int64) (val : Int64) (ka : Addr) (kf vf : Nat → Int64) (tk : Int32) (h0 : Heap) (n0 : Nat) (Z0 : n0 ≤ h0.size) (geo : n0 ≤ o0) (gek : n0 ≤ ka) (nok : o0 ≠ ka) (E0 : Exa Z h0 o0 "com/example/clockwrap/clockwrap/store/LongTable$Part") (Fk : Fld Z h0 o0 "com/example/clockwrap/clockwrap/store/LongTable$Part" "keys" "[J" (.ref ka)) (Fv : Fld Z h0 o0 "com/example/clockwrap/clockwrap/store/LongTable$Part" "values" "[J" .null) (Fs : Fld Z h0 o0 "com/example/clockwrap/clockwrap/store/LongTable$Part" "shift" "I" (.int (60 : Int32))) (Ft : Fld Z h0 o0 "com/example/clockwrap/clockwrap/store/LongTable$Part" "taken" "I" (.int tk)) (Va : Ara Z h0 ka .long 16 (fun i => .long (kf i))) (hu0 : ¬ u1 < 0) (hu1 : u1.toNatClampNeg < 16) (ht : ¬ ((12 : Int32) < (tk + (1 : Int32)))) :
    MetFree l (⟨"com/example/clockwrap/clockwrap/store/LongTable$Part", "place", "(IJJ)V"⟩ : MethodName) (head1 (Jvm.Cond.code (⟨"com/example/clockwrap/clockwrap/store/LongTable$Part", "place", "(IJJ)V"⟩ : MethodName) prog_33_method_7_code 6 none :: ws) ({ frames := 0, cells := 0, slots := 0, locals := 0 } : Room)) (fun a U => a = #[(.ref o0), (.int u1), (.long key), (.long val)] ∧ Z.Warmed39 U.vm ∧ U.heap = h0) (fun _ _ _ _ _ => True) (fun _ U o U' => ∃ v L, o = .returned v ∧ (Q_rm14_n Z o0 u1 key val ka kf vf tk h0 n0) v U'.heap L ∧ FrameEnd U o U' L ({ frames := 0, cells := 0, slots := 0, locals := 0 } : Room).cells ({ frames := 0, cells := 0, slots := 0, locals := 0 } : Room).slots) := by
  refine MetFree.of_bodySF (plainFor_of_name pn_1) hisR ?_
  intro p e s m args below meth c s₁ Bd hml0 hP hK
  obtain ⟨rfl, hZ, hh⟩ := hP
  have hx := Bd.exec
  have hby := Bd.bytes
  have hml : c.maxLocals = 6 := hml0
  have hown : s.vm.findClass "com/example/clockwrap/clockwrap/store/LongTable$Part" = some m.cls := findClass_of_methodNamed Bd.named
  have hnm := (name_of_methodNamed Bd.named Bd.method).1
  have X0 : Stand p l e ({ frames := 0, cells := 0, slots := 0, locals := 0 } : Room) s m #[(.ref o0), (.int u1), (.long key), (.long val)] below meth c s₁ [] 0 0 := Stand.of_body Bd
  have e0 : s₁.heap = h0 := by rw [← hh, Bd.state]; rfl
  have N0 := Fr.nil n0
  show OFin p e below (ORet (Q_rm14_n Z o0 u1 key val ka kf vf tk h0 n0) s ({ frames := 0, cells := 0, slots := 0, locals := 0 } : Room).cells ({ frames := 0, cells := 0, slots := 0, locals := 0 } : Room).slots) (s₁.setTop (entryFrame m #[(.ref o0), (.int u1), (.long key), (.long val)] 6))
  refine OFin.go (fun t k => castTop (ef_rm14_n m o0 u1 key val) k) ?_
  have K0 := Keep.refl h0 [o0, ka]
  show OFin p e below (ORet (Q_rm14_n Z o0 u1 key val ka kf vf tk h0 n0) s ({ frames := 0, cells := 0, slots := 0, locals := 0 } : Room).cells ({ frames := 0, cells := 0, slots := 0, locals := 0 } : Room).slots) (s₁.setTop (mkF m 0 #[.val (.ref o0), .val (.int u1), .val (.long key), .second, .val (.long val), .second] []))
  have S1 : ∀ t, Steps p.tables e below (s₁.setTop (mkF m 1 #[.val (.ref o0), .val (.int u1), .val (.long key), .second, .val (.long val), .second] [(.ref o0)])) t → Steps p.tables e below (s₁.setTop (mkF m 0 #[.val (.ref o0), .val (.int u1), .val (.long key), .second, .val (.long val), .second] [])) t := by
    intro t k
    show Steps p.tables e below (s₁.setTop (mkF m 0 #[.val (.ref o0), .val (.int u1), .val (.long key), .second, .val (.long val), .second] [])) t
    refine XS.aloadN X0.here hx rfl (hb hby d14_0) rfl rfl ?_
    exact k
  refine OFin.go S1 ?_
  obtain ⟨T2, X2, e2, st2⟩ := getF X0 hx hZ hown (host := "") (Or.inl (hw _ (List.mem_of_getElem? (i := 20) rfl))) Via.refl e0 Fk (g := (mkF m 1 #[.val (.ref o0), .val (.int u1), .val (.long key), .second, .val (.long val), .second] [(.ref o0)])) rfl rfl (hb hby d14_1)
  refine OFin.go st2 ?_
  show OFin p e below _ (T2.setTop (mkF m 4 #[.val (.ref o0), .val (.int u1), .val (.long key), .second, .val (.long val), .second] [(.ref ka)]))
  have S3 : ∀ t, Steps p.tables e below (T2.setTop (mkF m 6 #[.val (.ref o0), .val (.int u1), .val (.long key), .second, .val (.long val), .second] [(.long key), (.int u1), (.ref ka)])) t → Steps p.tables e below (T2.setTop (mkF m 4 #[.val (.ref o0), .val (.int u1), .val (.long key), .second, .val (.long val), .second] [(.ref ka)])) t := by
    intro t k
    show Steps p.tables e below (T2.setTop (mkF m 4 #[.val (.ref o0), .val (.int u1), .val (.long key), .second, .val (.long val), .second] [(.ref ka)])) t
    refine XS.iloadN X2.here hx rfl (hb hby d14_4) rfl ?_
    show Steps p.tables e below (T2.setTop (mkF m 5 #[.val (.ref o0), .val (.int u1), .val (.long key), .second, .val (.long val), .second] [(.int u1), (.ref ka)])) t
    refine XS.lloadN X2.here hx rfl (hb hby d14_5) rfl ?_
    exact k
  refine OFin.go S3 ?_
  obtain ⟨T4, h4, X4, e4, W4, st4⟩ := wrJ X2 hx hZ e2 Va (i := u1.toNatClampNeg) hu0 rfl hu1 (g := (mkF m 6 #[.val (.ref o0), .val (.int u1), .val (.long key), .second, .val (.long val), .second] [(.long key), (.int u1), (.ref ka)])) rfl rfl (hb hby d14_6)
  have V4 := Va.set W4
  have N4 := Fr.snoc X4 N0 gek
  have Z4 : n0 ≤ h4.size := Nat.le_trans Z0 (wr_le W4)
  have K4 := Keep.wr K0 W4 (Or.inl (List.mem_of_getElem? (i := 1) rfl))
  refine OFin.go st4 ?_
  show OFin p e below _ (T4.setTop (mkF m 7 #[.val (.ref o0), .val (.int u1), .val (.long key), .second, .val (.long val), .second] []))
  have S5 : ∀ t, Steps p.tables e below (T4.setTop (mkF m 8 #[.val (.ref o0), .val (.int u1), .val (.long key), .second, .val (.long val), .second] [(.ref o0)])) t → Steps p.tables e below (T4.setTop (mkF m 7 #[.val (.ref o0), .val (.int u1), .val (.long key), .second, .val (.long val), .second] [])) t := by
    intro t k
    show Steps p.tables e below (T4.setTop (mkF m 7 #[.val (.ref o0), .val (.int u1), .val (.long key), .second, .val (.long val), .second] [])) t
    refine XS.aloadN X4.here hx rfl (hb hby d14_7) rfl rfl ?_
    exact k
  refine OFin.go S5 ?_
  have F6 := Fv.other W4 (Or.inl nok)
  obtain ⟨T7, X7, e7, st7⟩ := getF X4 hx hZ hown (host := "") (Or.inl (hw _ (List.mem_of_getElem? (i := 76) rfl))) Via.refl e4 F6 (g := (mkF m 8 #[.val (.ref o0), .val (.int u1), .val (.long key), .second, .val (.long val), .second] [(.ref o0)])) rfl rfl (hb hby d14_8)
  refine OFin.go st7 ?_
  show OFin p e below _ (T7.setTop (mkF m 11 #[.val (.ref o0), .val (.int u1), .val (.long key), .second, .val (.long val), .second] [.null]))
  refine OFin.go (fun t k => ?_ : ∀ t, Steps p.tables e below (T7.setTop (mkF m 22 #[.val (.ref o0), .val (.int u1), .val (.long key), .second, .val (.long val), .second] [])) t → Steps p.tables e below (T7.setTop (mkF m 11 #[.val (.ref o0), .val (.int u1), .val (.long key), .second, .val (.long val), .second] [.null])) t) ?_
  · show Steps p.tables e below (T7.setTop (mkF m 11 #[.val (.ref o0), .val (.int u1), .val (.long key), .second, .val (.long val), .second] [.null])) t
    refine XS.ifnullYes X7.here hx rfl (pc0 := 11) (pc' := 22) rfl (hb hby d14_11) rfl (by decide) (by decide) ?_
    exact k
  have S8 : ∀ t, Steps p.tables e below (T7.setTop (mkF m 24 #[.val (.ref o0), .val (.int u1), .val (.long key), .second, .val (.long val), .second] [(.ref o0), (.ref o0)])) t → Steps p.tables e below (T7.setTop (mkF m 22 #[.val (.ref o0), .val (.int u1), .val (.long key), .second, .val (.long val), .second] [])) t := by
    intro t k
    show Steps p.tables e below (T7.setTop (mkF m 22 #[.val (.ref o0), .val (.int u1), .val (.long key), .second, .val (.long val), .second] [])) t
    refine XS.aloadN X7.here hx rfl (hb hby d14_22) rfl rfl ?_
    show Steps p.tables e below (T7.setTop (mkF m 23 #[.val (.ref o0), .val (.int u1), .val (.long key), .second, .val (.long val), .second] [(.ref o0)])) t
    refine XS.dup X7.here hx rfl (hb hby d14_23) rfl rfl ?_
    exact k
  refine OFin.go S8 ?_
  have F9 := Ft.other W4 (Or.inl nok)
  obtain ⟨T10, X10, e10, st10⟩ := getF X7 hx hZ hown (host := "") (Or.inl (hw _ (List.mem_of_getElem? (i := 78) rfl))) Via.refl e7 F9 (g := (mkF m 24 #[.val (.ref o0), .val (.int u1), .val (.long key), .second, .val (.long val), .second] [(.ref o0), (.ref o0)])) rfl rfl (hb hby d14_24)
  refine OFin.go st10 ?_
  show OFin p e below _ (T10.setTop (mkF m 27 #[.val (.ref o0), .val (.int u1), .val (.long key), .second, .val (.long val), .second] [(.int tk), (.ref o0)]))
  have S11 : ∀ t, Steps p.tables e below (T10.setTop (mkF m 29 #[.val (.ref o0), .val (.int u1), .val (.long key), .second, .val (.long val), .second] [(.int (tk + (1 : Int32))), (.ref o0)])) t → Steps p.tables e below (T10.setTop (mkF m 27 #[.val (.ref o0), .val (.int u1), .val (.long key), .second, .val (.long val), .second] [(.int tk), (.ref o0)])) t := by
    intro t k
    show Steps p.tables e below (T10.setTop (mkF m 27 #[.val (.ref o0), .val (.int u1), .val (.long key), .second, .val (.long val), .second] [(.int tk), (.ref o0)])) t
    refine XS.iconst X10.here hx rfl (hb hby d14_27) ?_
    show Steps p.tables e below (T10.setTop (mkF m 28 #[.val (.ref o0), .val (.int u1), .val (.long key), .second, .val (.long val), .second] [(.int (1 : Int32)), (.int tk), (.ref o0)])) t
    refine XS.iadd X10.here hx rfl (hb hby d14_28) rfl ?_
    exact k
  refine OFin.go S11 ?_
  have F12 := E0.wr W4
  obtain ⟨T13, h13, X13, e13, W13, st13⟩ := putF X10 hx hZ hown (host := "") (Or.inl (hw _ (List.mem_of_getElem? (i := 78) rfl))) Via.refl e10 F9 F12 (Or.inl (hw _ (List.mem_of_getElem? (i := 79) rfl))) (hw _ (List.mem_of_getElem? (i := 13) rfl)) (ty := .int) (by decide) rfl rfl (g := (mkF m 29 #[.val (.ref o0), .val (.int u1), .val (.long key), .second, .val (.long val), .second] [(.int (tk + (1 : Int32))), (.ref o0)])) rfl rfl (hb hby d14_29)
  have Fw13 := F9.same W13
  have N13 := Fr.snoc X13 N4 geo
  have Z13 : n0 ≤ h13.size := Nat.le_trans Z4 (wr_le W13)
  have K13 := Keep.wr K4 W13 (Or.inl (List.mem_of_getElem? (i := 0) rfl))
  refine OFin.go st13 ?_
  show OFin p e below _ (T13.setTop (mkF m 32 #[.val (.ref o0), .val (.int u1), .val (.long key), .second, .val (.long val), .second] []))
  have S14 : ∀ t, Steps p.tables e below (T13.setTop (mkF m 33 #[.val (.ref o0), .val (.int u1), .val (.long key), .second, .val (.long val), .second] [(.ref o0)])) t → Steps p.tables e below (T13.setTop (mkF m 32 #[.val (.ref o0), .val (.int u1), .val (.long key), .second, .val (.long val), .second] [])) t := by
    intro t k
    show Steps p.tables e below (T13.setTop (mkF m 32 #[.val (.ref o0), .val (.int u1), .val (.long key), .second, .val (.long val), .second] [])) t
    refine XS.aloadN X13.here hx rfl (hb hby d14_32) rfl rfl ?_
    exact k
  refine OFin.go S14 ?_
  obtain ⟨T15, X15, e15, st15⟩ := getF X13 hx hZ hown (host := "") (Or.inl (hw _ (List.mem_of_getElem? (i := 78) rfl))) Via.refl e13 Fw13 (g := (mkF m 33 #[.val (.ref o0), .val (.int u1), .val (.long key), .second, .val (.long val), .second] [(.ref o0)])) rfl rfl (hb hby d14_33)
  refine OFin.go st15 ?_
  show OFin p e below _ (T15.setTop (mkF m 36 #[.val (.ref o0), .val (.int u1), .val (.long key), .second, .val (.long val), .second] [(.int (tk + (1 : Int32)))]))
  have S16 : ∀ t, Steps p.tables e below (T15.setTop (mkF m 37 #[.val (.ref o0), .val (.int u1), .val (.long key), .second, .val (.long val), .second] [(.ref o0), (.int (tk + (1 : Int32)))])) t → Steps p.tables e below (T15.setTop (mkF m 36 #[.val (.ref o0), .val (.int u1), .val (.long key), .second, .val (.long val), .second] [(.int (tk + (1 : Int32)))])) t := by
    intro t k
    show Steps p.tables e below (T15.setTop (mkF m 36 #[.val (.ref o0), .val (.int u1), .val (.long key), .second, .val (.long val), .second] [(.int (tk + (1 : Int32)))])) t
    refine XS.aloadN X15.here hx rfl (hb hby d14_36) rfl rfl ?_
    exact k
  refine OFin.go S16 ?_
  have F17 := Fk.other W4 (Or.inl nok)
  have F18 := F17.other W13 (Or.inr (slot_ne (Or.inl (hw _ (List.mem_of_getElem? (i := 21) rfl))) (Or.inl (hw _ (List.mem_of_getElem? (i := 79) rfl))) (by decide) (t := (.array .long)) (t' := .int) (by decide) (by decide)))
  obtain ⟨T19, X19, e19, st19⟩ := getF X15 hx hZ hown (host := "") (Or.inl (hw _ (List.mem_of_getElem? (i := 20) rfl))) Via.refl e15 F18 (g := (mkF m 37 #[.val (.ref o0), .val (.int u1), .val (.long key), .second, .val (.long val), .second] [(.ref o0), (.int (tk + (1 : Int32)))])) rfl rfl (hb hby d14_37)
  refine OFin.go st19 ?_
  show OFin p e below _ (T19.setTop (mkF m 40 #[.val (.ref o0), .val (.int u1), .val (.long key), .second, .val (.long val), .second] [(.ref ka), (.int (tk + (1 : Int32)))]))
  have F20 := V4.other W13 (Ne.symm nok)
  have S21 : ∀ t, Steps p.tables e below (T19.setTop (mkF m 45 #[.val (.ref o0), .val (.int u1), .val (.long key), .second, .val (.long val), .second] [(.int (12 : Int32)), (.int (tk + (1 : Int32)))])) t → Steps p.tables e below (T19.setTop (mkF m 40 #[.val (.ref o0), .val (.int u1), .val (.long key), .second, .val (.long val), .second] [(.ref ka), (.int (tk + (1 : Int32)))])) t := by
    intro t k
    show Steps p.tables e below (T19.setTop (mkF m 40 #[.val (.ref o0), .val (.int u1), .val (.long key), .second, .val (.long val), .second] [(.ref ka), (.int (tk + (1 : Int32)))])) t
    refine alen X19 hx hZ e19 F20 (z := (16 : Int32)) rfl (g := (mkF m 40 #[.val (.ref o0), .val (.int u1), .val (.long key), .second, .val (.long val), .second] [(.ref ka), (.int (tk + (1 : Int32)))])) rfl rfl (hb hby d14_40) ?_
    show Steps p.tables e below (T19.setTop (mkF m 41 #[.val (.ref o0), .val (.int u1), .val (.long key), .second, .val (.long val), .second] [(.int (16 : Int32)), (.int (tk + (1 : Int32)))])) t
    refine XS.iconst X19.here hx rfl (hb hby d14_41) ?_
    show Steps p.tables e below (T19.setTop (mkF m 42 #[.val (.ref o0), .val (.int u1), .val (.long key), .second, .val (.long val), .second] [(.int (4 : Int32)), (.int (16 : Int32)), (.int (tk + (1 : Int32)))])) t
    refine XS.idiv X19.here hx rfl (hb hby d14_42) rfl (by decide) ?_
    show Steps p.tables e below (T19.setTop (mkF m 43 #[.val (.ref o0), .val (.int u1), .val (.long key), .second, .val (.long val), .second] [(.int (4 : Int32)), (.int (tk + (1 : Int32)))])) t
    refine XS.iconst X19.here hx rfl (hb hby d14_43) ?_
    show Steps p.tables e below (T19.setTop (mkF m 44 #[.val (.ref o0), .val (.int u1), .val (.long key), .second, .val (.long val), .second] [(.int (3 : Int32)), (.int (4 : Int32)), (.int (tk + (1 : Int32)))])) t
    refine XS.imul X19.here hx rfl (hb hby d14_44) rfl ?_
    exact k
  refine OFin.go S21 ?_
  have S22 : ∀ t, Steps p.tables e below (T19.setTop (mkF m 52 #[.val (.ref o0), .val (.int u1), .val (.long key), .second, .val (.long val), .second] [])) t → Steps p.tables e below (T19.setTop (mkF m 45 #[.val (.ref o0), .val (.int u1), .val (.long key), .second, .val (.long val), .second] [(.int (12 : Int32)), (.int (tk + (1 : Int32)))])) t := by
    intro t k
    show Steps p.tables e below (T19.setTop (mkF m 45 #[.val (.ref o0), .val (.int u1), .val (.long key), .second, .val (.long val), .second] [(.int (12 : Int32)), (.int (tk + (1 : Int32)))])) t
    refine XS.icmpYes X19.here hx rfl (pc0 := 45) (pc' := 52) rfl (hb hby d14_45) rfl (flt ht).2.2.2 (by decide) (by decide) ?_
    exact k
  refine OFin.go S22 ?_
  have F23 := F12.wr W13
  have F24 := F6.other W13 (Or.inr (slot_ne (Or.inl (hw _ (List.mem_of_getElem? (i := 77) rfl))) (Or.inl (hw _ (List.mem_of_getElem? (i := 79) rfl))) (by decide) (t := (.array .long)) (t' := .int) (by decide) (by decide)))
  have F25 := Fs.other W4 (Or.inl nok)
  have F26 := F25.other W13 (Or.inr (slot_ne (Or.inl (hw _ (List.mem_of_getElem? (i := 28) rfl))) (Or.inl (hw _ (List.mem_of_getElem? (i := 79) rfl))) (by decide) (t := .int) (t' := .int) (by decide) (by decide)))
  exact finV X19 hx Bd.notSynchronized Bd.returns (hb hby d14_52) (by decide) (by decide) (by rw [e19]; exact ⟨rfl, N13, K13, F23, F18, F24, F26, Fw13, F20.congr (fun i _ => own_updl _ _ _ i)⟩)
theorem ef_rm14_v (m : MethodId) (o0 : Addr) (u1 : Int32) (key : Int64) (val : Int64) : entryFrame m #[(.ref o0), (.int u1), (.long key), (.long val)] 6 = mkF m 0 #[.val (.ref o0), .val (.int u1), .val (.long key), .second, .val (.long val), .second] [] := by first | (simp [entryFrame, mkF, argsToLocals, Value.category]; done) | rfl
def Q_rm14_v (Z : State) (o0 : Addr) (u1 : Int32) (key : Int64) (val : Int64) (ka va : Addr) (kf vf : Nat → Int64) (tk : Int32) (h0 : Heap) (n0 : Nat) (v : Option Value) (h : Heap) (L : List Loc) : Prop := v = none ∧ Fr n0 L ∧ Keep h0 h [o0, ka, va] ∧ Exa Z h o0 "com/example/clockwrap/clockwrap/store/LongTable$Part" ∧ Fld Z h o0 "com/example/clockwrap/clockwrap/store/LongTable$Part" "keys" "[J" (.ref ka) ∧ Fld Z h o0 "com/example/clockwrap/clockwrap/store/LongTable$Part" "values" "[J" (.ref va) ∧ Fld Z h o0 "com/example/clockwrap/clockwrap/store/LongTable$Part" "shift" "I" (.int (60 : Int32)) ∧ Fld Z h o0 "com/example/clockwrap/clockwrap/store/LongTable$Part" "taken" "I" (.int (tk + (1 : Int32))) ∧ Ara Z h ka .long 16 (fun i => .long ((upd kf u1.toNatClampNeg key) i)) ∧ Ara Z h va .long 16 (fun i => .long ((upd vf u1.toNatClampNeg val) i))
theorem d14_14 : decode prog_33_method_7_code 14 = .ok (.aload_n 0, 1) := by decide +kernel
theorem d14_15 : decode prog_33_method_7_code 15 = .ok (.getfield 35, 3) := by decide +kernel
theorem d14_18 : decode prog_33_method_7_code 18 = .ok (.iload_n 1, 1) := by decide +kernel
theorem d14_19 : decode prog_33_method_7_code 19 = .ok (.lload 4, 2) := by decide +kernel
theorem d14_21 : decode prog_33_method_7_code 21 = .ok (.lastore, 1) := by decide +kernel
set_option maxRecDepth 65536 in
set_option maxHeartbeats 40000000 in
theorem rm14_v (l : Launch) (Z : State) (a0 : Array Value) (hw : ∀ d ∈ tables_1, d.before a0 Z = true) (ws : List Jvm.Cond) (o0 : Addr) (u1 : Int32) (key : Int64) (val : Int64) (ka va : Addr) (kf vf : Nat → Int64) (tk : Int32) (h0 : Heap) (n0 : Nat) (Z0 : n0 ≤ h0.size) (geo : n0 ≤ o0) (gek : n0 ≤ ka) (nok : o0 ≠ ka) (gev : n0 ≤ va) (nov : o0 ≠ va) (nkv : ka ≠ va) (E0 : Exa Z h0 o0 "com/example/clockwrap/clockwrap/store/LongTable$Part") (Fk : Fld Z h0 o0 "com/example/clockwrap/clockwrap/store/LongTable$Part" "keys" "[J" (.ref ka)) (Fv : Fld Z h0 o0 "com/example/clockwrap/clockwrap/store/LongTable$Part" "values" "[J" (.ref va)) (Fs : Fld Z h0 o0 "com/example/clockwrap/clockwrap/store/LongTable$Part" "shift" "I" (.int (60 : Int32))) (Ft : Fld Z h0 o0 "com/example/clockwrap/clockwrap/store/LongTable$Part" "taken" "I" (.int tk)) (Va : Ara Z h0 ka .long 16 (fun i => .long (kf i))) (Vv : Ara Z h0 va .long 16 (fun i => .long (vf i))) (hu0 : ¬ u1 < 0) (hu1 : u1.toNatClampNeg < 16) (ht : ¬ ((12 : Int32) < (tk + (1 : Int32)))) :
    MetFree l (⟨"com/example/clockwrap/clockwrap/store/LongTable$Part", "place", "(IJJ)V"⟩ : MethodName) (head1 (Jvm.Cond.code (⟨"com/example/clockwrap/clockwrap/store/LongTable$Part", "place", "(IJJ)V"⟩ : MethodName) prog_33_method_7_code 6 none :: ws) ({ frames := 0, cells := 0, slots := 0, locals := 0 } : Room)) (fun a U => a = #[(.ref o0), (.int u1), (.long key), (.long val)] ∧ Z.Warmed39 U.vm ∧ U.heap = h0) (fun _ _ _ _ _ => True) (fun _ U o U' => ∃ v L, o = .returned v ∧ (Q_rm14_v Z o0 u1 key val ka va kf vf tk h0 n0) v U'.heap L ∧ FrameEnd U o U' L ({ frames := 0, cells := 0, slots := 0, locals := 0 } : Room).cells ({ frames := 0, cells := 0, slots := 0, locals := 0 } : Room).slots) := by
  refine MetFree.of_bodySF (plainFor_of_name pn_1) hisR ?_
  intro p e s m args below meth c s₁ Bd hml0 hP hK
  obtain ⟨rfl, hZ, hh⟩ := hP
  have hx := Bd.exec
  have hby := Bd.bytes
  have hml : c.maxLocals = 6 := hml0
  have hown : s.vm.findClass "com/example/clockwrap/clockwrap/store/LongTable$Part" = some m.cls := findClass_of_methodNamed Bd.named
  have hnm := (name_of_methodNamed Bd.named Bd.method).1
  have X0 : Stand p l e ({ frames := 0, cells := 0, slots := 0, locals := 0 } : Room) s m #[(.ref o0), (.int u1), (.long key), (.long val)] below meth c s₁ [] 0 0 := Stand.of_body Bd
  have e0 : s₁.heap = h0 := by rw [← hh, Bd.state]; rfl
  have N0 := Fr.nil n0
  show OFin p e below (ORet (Q_rm14_v Z o0 u1 key val ka va kf vf tk h0 n0) s ({ frames := 0, cells := 0, slots := 0, locals := 0 } : Room).cells ({ frames := 0, cells := 0, slots := 0, locals := 0 } : Room).slots) (s₁.setTop (entryFrame m #[(.ref o0), (.int u1), (.long key), (.long val)] 6))
  refine OFin.go (fun t k => castTop (ef_rm14_v m o0 u1 key val) k) ?_
  have K0 := Keep.refl h0 [o0, ka, va]
  show OFin p e below (ORet (Q_rm14_v Z o0 u1 key val ka va kf vf tk h0 n0) s ({ frames := 0, cells := 0, slots := 0, locals := 0 } : Room).cells ({ frames := 0, cells := 0, slots := 0, locals := 0 } : Room).slots) (s₁.setTop (mkF m 0 #[.val (.ref o0), .val (.int u1), .val (.long key), .second, .val (.long val), .second] []))
  have S1 : ∀ t, Steps p.tables e below (s₁.setTop (mkF m 1 #[.val (.ref o0), .val (.int u1), .val (.long key), .second, .val (.long val), .second] [(.ref o0)])) t → Steps p.tables e below (s₁.setTop (mkF m 0 #[.val (.ref o0), .val (.int u1), .val (.long key), .second, .val (.long val), .second] [])) t := by
    intro t k
    show Steps p.tables e below (s₁.setTop (mkF m 0 #[.val (.ref o0), .val (.int u1), .val (.long key), .second, .val (.long val), .second] [])) t
    refine XS.aloadN X0.here hx rfl (hb hby d14_0) rfl rfl ?_
    exact k
  refine OFin.go S1 ?_
  obtain ⟨T2, X2, e2, st2⟩ := getF X0 hx hZ hown (host := "") (Or.inl (hw _ (List.mem_of_getElem? (i := 20) rfl))) Via.refl e0 Fk (g := (mkF m 1 #[.val (.ref o0), .val (.int u1), .val (.long key), .second, .val (.long val), .second] [(.ref o0)])) rfl rfl (hb hby d14_1)
  refine OFin.go st2 ?_
  show OFin p e below _ (T2.setTop (mkF m 4 #[.val (.ref o0), .val (.int u1), .val (.long key), .second, .val (.long val), .second] [(.ref ka)]))
  have S3 : ∀ t, Steps p.tables e below (T2.setTop (mkF m 6 #[.val (.ref o0), .val (.int u1), .val (.long key), .second, .val (.long val), .second] [(.long key), (.int u1), (.ref ka)])) t → Steps p.tables e below (T2.setTop (mkF m 4 #[.val (.ref o0), .val (.int u1), .val (.long key), .second, .val (.long val), .second] [(.ref ka)])) t := by
    intro t k
    show Steps p.tables e below (T2.setTop (mkF m 4 #[.val (.ref o0), .val (.int u1), .val (.long key), .second, .val (.long val), .second] [(.ref ka)])) t
    refine XS.iloadN X2.here hx rfl (hb hby d14_4) rfl ?_
    show Steps p.tables e below (T2.setTop (mkF m 5 #[.val (.ref o0), .val (.int u1), .val (.long key), .second, .val (.long val), .second] [(.int u1), (.ref ka)])) t
    refine XS.lloadN X2.here hx rfl (hb hby d14_5) rfl ?_
    exact k
  refine OFin.go S3 ?_
  obtain ⟨T4, h4, X4, e4, W4, st4⟩ := wrJ X2 hx hZ e2 Va (i := u1.toNatClampNeg) hu0 rfl hu1 (g := (mkF m 6 #[.val (.ref o0), .val (.int u1), .val (.long key), .second, .val (.long val), .second] [(.long key), (.int u1), (.ref ka)])) rfl rfl (hb hby d14_6)
  have V4 := Va.set W4
  have N4 := Fr.snoc X4 N0 gek
  have Z4 : n0 ≤ h4.size := Nat.le_trans Z0 (wr_le W4)
  have K4 := Keep.wr K0 W4 (Or.inl (List.mem_of_getElem? (i := 1) rfl))
  refine OFin.go st4 ?_
  show OFin p e below _ (T4.setTop (mkF m 7 #[.val (.ref o0), .val (.int u1), .val (.long key), .second, .val (.long val), .second] []))
  have S5 : ∀ t, Steps p.tables e below (T4.setTop (mkF m 8 #[.val (.ref o0), .val (.int u1), .val (.long key), .second, .val (.long val), .second] [(.ref o0)])) t → Steps p.tables e below (T4.setTop (mkF m 7 #[.val (.ref o0), .val (.int u1), .val (.long key), .second, .val (.long val), .second] [])) t := by
    intro t k
    show Steps p.tables e below (T4.setTop (mkF m 7 #[.val (.ref o0), .val (.int u1), .val (.long key), .second, .val (.long val), .second] [])) t
    refine XS.aloadN X4.here hx rfl (hb hby d14_7) rfl rfl ?_
    exact k
  refine OFin.go S5 ?_
  have F6 := Fv.other W4 (Or.inl nok)
  obtain ⟨T7, X7, e7, st7⟩ := getF X4 hx hZ hown (host := "") (Or.inl (hw _ (List.mem_of_getElem? (i := 76) rfl))) Via.refl e4 F6 (g := (mkF m 8 #[.val (.ref o0), .val (.int u1), .val (.long key), .second, .val (.long val), .second] [(.ref o0)])) rfl rfl (hb hby d14_8)
  refine OFin.go st7 ?_
  show OFin p e below _ (T7.setTop (mkF m 11 #[.val (.ref o0), .val (.int u1), .val (.long key), .second, .val (.long val), .second] [(.ref va)]))
  refine OFin.go (fun t k => ?_ : ∀ t, Steps p.tables e below (T7.setTop (mkF m 14 #[.val (.ref o0), .val (.int u1), .val (.long key), .second, .val (.long val), .second] [])) t → Steps p.tables e below (T7.setTop (mkF m 11 #[.val (.ref o0), .val (.int u1), .val (.long key), .second, .val (.long val), .second] [(.ref va)])) t) ?_
  · show Steps p.tables e below (T7.setTop (mkF m 11 #[.val (.ref o0), .val (.int u1), .val (.long key), .second, .val (.long val), .second] [(.ref va)])) t
    refine XS.ifnullNo X7.here hx rfl (hb hby d14_11) rfl ?_
    exact k
  have S8 : ∀ t, Steps p.tables e below (T7.setTop (mkF m 15 #[.val (.ref o0), .val (.int u1), .val (.long key), .second, .val (.long val), .second] [(.ref o0)])) t → Steps p.tables e below (T7.setTop (mkF m 14 #[.val (.ref o0), .val (.int u1), .val (.long key), .second, .val (.long val), .second] [])) t := by
    intro t k
    show Steps p.tables e below (T7.setTop (mkF m 14 #[.val (.ref o0), .val (.int u1), .val (.long key), .second, .val (.long val), .second] [])) t
    refine XS.aloadN X7.here hx rfl (hb hby d14_14) rfl rfl ?_
    exact k
  refine OFin.go S8 ?_
  obtain ⟨T9, X9, e9, st9⟩ := getF X7 hx hZ hown (host := "") (Or.inl (hw _ (List.mem_of_getElem? (i := 76) rfl))) Via.refl e7 F6 (g := (mkF m 15 #[.val (.ref o0), .val (.int u1), .val (.long key), .second, .val (.long val), .second] [(.ref o0)])) rfl rfl (hb hby d14_15)
  refine OFin.go st9 ?_
  show OFin p e below _ (T9.setTop (mkF m 18 #[.val (.ref o0), .val (.int u1), .val (.long key), .second, .val (.long val), .second] [(.ref va)]))
  have S10 : ∀ t, Steps p.tables e below (T9.setTop (mkF m 21 #[.val (.ref o0), .val (.int u1), .val (.long key), .second, .val (.long val), .second] [(.long val), (.int u1), (.ref va)])) t → Steps p.tables e below (T9.setTop (mkF m 18 #[.val (.ref o0), .val (.int u1), .val (.long key), .second, .val (.long val), .second] [(.ref va)])) t := by
    intro t k
    show Steps p.tables e below (T9.setTop (mkF m 18 #[.val (.ref o0), .val (.int u1), .val (.long key), .second, .val (.long val), .second] [(.ref va)])) t
    refine XS.iloadN X9.here hx rfl (hb hby d14_18) rfl ?_
    show Steps p.tables e below (T9.setTop (mkF m 19 #[.val (.ref o0), .val (.int u1), .val (.long key), .second, .val (.long val), .second] [(.int u1), (.ref va)])) t
    refine XS.lload X9.here hx rfl (hb hby d14_19) rfl ?_
    exact k
  refine OFin.go S10 ?_
  have F11 := Vv.other W4 (Ne.symm nkv)
  obtain ⟨T12, h12, X12, e12, W12, st12⟩ := wrJ X9 hx hZ e9 F11 (i := u1.toNatClampNeg) hu0 rfl hu1 (g := (mkF m 21 #[.val (.ref o0), .val (.int u1), .val (.long key), .second, .val (.long val), .second] [(.long val), (.int u1), (.ref va)])) rfl rfl (hb hby d14_21)
  have V12 := F11.set W12
  have N12 := Fr.snoc X12 N4 gev
  have Z12 : n0 ≤ h12.size := Nat.le_trans Z4 (wr_le W12)
  have K12 := Keep.wr K4 W12 (Or.inl (List.mem_of_getElem? (i := 2) rfl))
  refine OFin.go st12 ?_
  show OFin p e below _ (T12.setTop (mkF m 22 #[.val (.ref o0), .val (.int u1), .val (.long key), .second, .val (.long val), .second] []))
  have S13 : ∀ t, Steps p.tables e below (T12.setTop (mkF m 24 #[.val (.ref o0), .val (.int u1), .val (.long key), .second, .val (.long val), .second] [(.ref o0), (.ref o0)])) t → Steps p.tables e below (T12.setTop (mkF m 22 #[.val (.ref o0), .val (.int u1), .val (.long key), .second, .val (.long val), .second] [])) t := by
    intro t k
    show Steps p.tables e below (T12.setTop (mkF m 22 #[.val (.ref o0), .val (.int u1), .val (.long key), .second, .val (.long val), .second] [])) t
    refine XS.aloadN X12.here hx rfl (hb hby d14_22) rfl rfl ?_
    show Steps p.tables e below (T12.setTop (mkF m 23 #[.val (.ref o0), .val (.int u1), .val (.long key), .second, .val (.long val), .second] [(.ref o0)])) t
    refine XS.dup X12.here hx rfl (hb hby d14_23) rfl rfl ?_
    exact k
  refine OFin.go S13 ?_
  have F14 := Ft.other W4 (Or.inl nok)
  have F15 := F14.other W12 (Or.inl nov)
  obtain ⟨T16, X16, e16, st16⟩ := getF X12 hx hZ hown (host := "") (Or.inl (hw _ (List.mem_of_getElem? (i := 78) rfl))) Via.refl e12 F15 (g := (mkF m 24 #[.val (.ref o0), .val (.int u1), .val (.long key), .second, .val (.long val), .second] [(.ref o0), (.ref o0)])) rfl rfl (hb hby d14_24)
  refine OFin.go st16 ?_
  show OFin p e below _ (T16.setTop (mkF m 27 #[.val (.ref o0), .val (.int u1), .val (.long key), .second, .val (.long val), .second] [(.int tk), (.ref o0)]))
  have S17 : ∀ t, Steps p.tables e below (T16.setTop (mkF m 29 #[.val (.ref o0), .val (.int u1), .val (.long key), .second, .val (.long val), .second] [(.int (tk + (1 : Int32))), (.ref o0)])) t → Steps p.tables e below (T16.setTop (mkF m 27 #[.val (.ref o0), .val (.int u1), .val (.long key), .second, .val (.long val), .second] [(.int tk), (.ref o0)])) t := by
    intro t k
    show Steps p.tables e below (T16.setTop (mkF m 27 #[.val (.ref o0), .val (.int u1), .val (.long key), .second, .val (.long val), .second] [(.int tk), (.ref o0)])) t
    refine XS.iconst X16.here hx rfl (hb hby d14_27) ?_
    show Steps p.tables e below (T16.setTop (mkF m 28 #[.val (.ref o0), .val (.int u1), .val (.long key), .second, .val (.long val), .second] [(.int (1 : Int32)), (.int tk), (.ref o0)])) t
    refine XS.iadd X16.here hx rfl (hb hby d14_28) rfl ?_
    exact k
  refine OFin.go S17 ?_
  have F18 := E0.wr W4
  have F19 := F18.wr W12
  obtain ⟨T20, h20, X20, e20, W20, st20⟩ := putF X16 hx hZ hown (host := "") (Or.inl (hw _ (List.mem_of_getElem? (i := 78) rfl))) Via.refl e16 F15 F19 (Or.inl (hw _ (List.mem_of_getElem? (i := 79) rfl))) (hw _ (List.mem_of_getElem? (i := 13) rfl)) (ty := .int) (by decide) rfl rfl (g := (mkF m 29 #[.val (.ref o0), .val (.int u1), .val (.long key), .second, .val (.long val), .second] [(.int (tk + (1 : Int32))), (.ref o0)])) rfl rfl (hb hby d14_29)
  have Fw20 := F15.same W20
  have N20 := Fr.snoc X20 N12 geo
  have Z20 : n0 ≤ h20.size := Nat.le_trans Z12 (wr_le W20)
  have K20 := Keep.wr K12 W20 (Or.inl (List.mem_of_getElem? (i := 0) rfl))
  refine OFin.go st20 ?_
  show OFin p e below _ (T20.setTop (mkF m 32 #[.val (.ref o0), .val (.int u1), .val (.long key), .second, .val (.long val), .second] []))
  have S21 : ∀ t, Steps p.tables e below (T20.setTop (mkF m 33 #[.val (.ref o0), .val (.int u1), .val (.long key), .second, .val (.long val), .second] [(.ref o0)])) t → Steps p.tables e below (T20.setTop (mkF m 32 #[.val (.ref o0), .val (.int u1), .val (.long key), .second, .val (.long val), .second] [])) t := by
    intro t k
    show Steps p.tables e below (T20.setTop (mkF m 32 #[.val (.ref o0), .val (.int u1), .val (.long key), .second, .val (.long val), .second] [])) t
    refine XS.aloadN X20.here hx rfl (hb hby d14_32) rfl rfl ?_
    exact k
  refine OFin.go S21 ?_
  obtain ⟨T22, X22, e22, st22⟩ := getF X20 hx hZ hown (host := "") (Or.inl (hw _ (List.mem_of_getElem? (i := 78) rfl))) Via.refl e20 Fw20 (g := (mkF m 33 #[.val (.ref o0), .val (.int u1), .val (.long key), .second, .val (.long val), .second] [(.ref o0)])) rfl rfl (hb hby d14_33)
  refine OFin.go st22 ?_
  show OFin p e below _ (T22.setTop (mkF m 36 #[.val (.ref o0), .val (.int u1), .val (.long key), .second, .val (.long val), .second] [(.int (tk + (1 : Int32)))]))
  have S23 : ∀ t, Steps p.tables e below (T22.setTop (mkF m 37 #[.val (.ref o0), .val (.int u1), .val (.long key), .second, .val (.long val), .second] [(.ref o0), (.int (tk + (1 : Int32)))])) t → Steps p.tables e below (T22.setTop (mkF m 36 #[.val (.ref o0), .val (.int u1), .val (.long key), .second, .val (.long val), .second] [(.int (tk + (1 : Int32)))])) t := by
    intro t k
    show Steps p.tables e below (T22.setTop (mkF m 36 #[.val (.ref o0), .val (.int u1), .val (.long key), .second, .val (.long val), .second] [(.int (tk + (1 : Int32)))])) t
    refine XS.aloadN X22.here hx rfl (hb hby d14_36) rfl rfl ?_
    exact k
  refine OFin.go S23 ?_
  have F24 := Fk.other W4 (Or.inl nok)
  have F25 := F24.other W12 (Or.inl nov)
  have F26 := F25.other W20 (Or.inr (slot_ne (Or.inl (hw _ (List.mem_of_getElem? (i := 21) rfl))) (Or.inl (hw _ (List.mem_of_getElem? (i := 79) rfl))) (by decide) (t := (.array .long)) (t' := .int) (by decide) (by decide)))
  obtain ⟨T27, X27, e27, st27⟩ := getF X22 hx hZ hown (host := "") (Or.inl (hw _ (List.mem_of_getElem? (i := 20) rfl))) Via.refl e22 F26 (g := (mkF m 37 #[.val (.ref o0), .val (.int u1), .val (.long key), .second, .val (.long val), .second] [(.ref o0), (.int (tk + (1 : Int32)))])) rfl rfl (hb hby d14_37)
  refine OFin.go st27 ?_
  show OFin p e below _ (T27.setTop (mkF m 40 #[.val (.ref o0), .val (.int u1), .val (.long key), .second, .val (.long val), .second] [(.ref ka), (.int (tk + (1 : Int32)))]))
  have F28 := V4.other W12 nkv
  have F29 := F28.other W20 (Ne.symm nok)
  have S30 : ∀ t, Steps p.tables e below (T27.setTop (mkF m 45 #[.val (.ref o0), .val (.int u1), .val (.long key), .second, .val (.long val), .second] [(.int (12 : Int32)), (.int (tk + (1 : Int32)))])) t → Steps p.tables e below (T27.setTop (mkF m 40 #[.val (.ref o0), .val (.int u1), .val (.long key), .second, .val (.long val), .second] [(.ref ka), (.int (tk + (1 : Int32)))])) t := by
    intro t k
    show Steps p.tables e below (T27.setTop (mkF m 40 #[.val (.ref o0), .val (.int u1), .val (.long key), .second, .val (.long val), .second] [(.ref ka), (.int (tk + (1 : Int32)))])) t
    refine alen X27 hx hZ e27 F29 (z := (16 : Int32)) rfl (g := (mkF m 40 #[.val (.ref o0), .val (.int u1), .val (.long key), .second, .val (.long val), .second] [(.ref ka), (.int (tk + (1 : Int32)))])) rfl rfl (hb hby d14_40) ?_
    show Steps p.tables e below (T27.setTop (mkF m 41 #[.val (.ref o0), .val (.int u1), .val (.long key), .second, .val (.long val), .second] [(.int (16 : Int32)), (.int (tk + (1 : Int32)))])) t
    refine XS.iconst X27.here hx rfl (hb hby d14_41) ?_
    show Steps p.tables e below (T27.setTop (mkF m 42 #[.val (.ref o0), .val (.int u1), .val (.long key), .second, .val (.long val), .second] [(.int (4 : Int32)), (.int (16 : Int32)), (.int (tk + (1 : Int32)))])) t
    refine XS.idiv X27.here hx rfl (hb hby d14_42) rfl (by decide) ?_
    show Steps p.tables e below (T27.setTop (mkF m 43 #[.val (.ref o0), .val (.int u1), .val (.long key), .second, .val (.long val), .second] [(.int (4 : Int32)), (.int (tk + (1 : Int32)))])) t
    refine XS.iconst X27.here hx rfl (hb hby d14_43) ?_
    show Steps p.tables e below (T27.setTop (mkF m 44 #[.val (.ref o0), .val (.int u1), .val (.long key), .second, .val (.long val), .second] [(.int (3 : Int32)), (.int (4 : Int32)), (.int (tk + (1 : Int32)))])) t
    refine XS.imul X27.here hx rfl (hb hby d14_44) rfl ?_
    exact k
  refine OFin.go S30 ?_
  have S31 : ∀ t, Steps p.tables e below (T27.setTop (mkF m 52 #[.val (.ref o0), .val (.int u1), .val (.long key), .second, .val (.long val), .second] [])) t → Steps p.tables e below (T27.setTop (mkF m 45 #[.val (.ref o0), .val (.int u1), .val (.long key), .second, .val (.long val), .second] [(.int (12 : Int32)), (.int (tk + (1 : Int32)))])) t := by
    intro t k
    show Steps p.tables e below (T27.setTop (mkF m 45 #[.val (.ref o0), .val (.int u1), .val (.long key), .second, .val (.long val), .second] [(.int (12 : Int32)), (.int (tk + (1 : Int32)))])) t
    refine XS.icmpYes X27.here hx rfl (pc0 := 45) (pc' := 52) rfl (hb hby d14_45) rfl (flt ht).2.2.2 (by decide) (by decide) ?_
    exact k
  refine OFin.go S31 ?_
  have F32 := F19.wr W20
  have F33 := F6.other W12 (Or.inl nov)
  have F34 := F33.other W20 (Or.inr (slot_ne (Or.inl (hw _ (List.mem_of_getElem? (i := 77) rfl))) (Or.inl (hw _ (List.mem_of_getElem? (i := 79) rfl))) (by decide) (t := (.array .long)) (t' := .int) (by decide) (by decide)))
  have F35 := Fs.other W4 (Or.inl nok)
  have F36 := F35.other W12 (Or.inl nov)
  have F37 := F36.other W20 (Or.inr (slot_ne (Or.inl (hw _ (List.mem_of_getElem? (i := 28) rfl))) (Or.inl (hw _ (List.mem_of_getElem? (i := 79) rfl))) (by decide) (t := .int) (t' := .int) (by decide) (by decide)))
  have F38 := V12.other W20 (Ne.symm nov)
  exact finV X27 hx Bd.notSynchronized Bd.returns (hb hby d14_52) (by decide) (by decide) (by rw [e27]; exact ⟨rfl, N20, K20, F32, F26, F34, F37, Fw20, F29.congr (fun i _ => own_updl _ _ _ i), F38.congr (fun i _ => own_updl _ _ _ i)⟩)
theorem own_t {kf vf : Nat → Int64} {tk : Int32} {mm : Nat} (hP : PI hm kf vf tk mm) (hm10 : mm < 10) : ¬ ((12 : Int32) < (tk + (1 : Int32))) ∧ (tk + (1 : Int32)).toInt = tk.toInt + 1 ∧ (tk - (1 : Int32)).toInt = tk.toInt - 1 := by
  have h1 := hP.2.2.2.2.1; have h2 := hP.2.2.2.2.2
  have a1 : (tk + 1).toInt = tk.toInt + 1 := by have := c_iadd tk 1; have := (tk + 1).toInt_lt; have := (tk + 1).le_toInt; simp only [Int32.reduceToInt] at *; omega
  have a2 : (tk - 1).toInt = tk.toInt - 1 := by have := c_isub tk 1; have := (tk - 1).toInt_lt; have := (tk - 1).le_toInt; simp only [Int32.reduceToInt] at *; omega
  refine ⟨?_, a1, a2⟩
  rw [Int32.lt_iff_toInt_lt, a1]; simp only [Int32.reduceToInt]; omega
theorem own_msk {x1 x2 : Int32} (h1 : ¬ x1 < 0) (h2 : ¬ x2 < 0) (h3 : x1.toNatClampNeg < 16) (h4 : x2.toNatClampNeg < 16) : ((x1 - x2) &&& (15 : Int32)).toInt = ((x1.toNatClampNeg + 16 - x2.toNatClampNeg) % 16 : Nat) := by
  have e1 := nat_of h1; have e2 := nat_of h2
  have a1 : (x1 - x2).toInt = x1.toInt - x2.toInt := by have := c_isub x1 x2; have := (x1 - x2).toInt_lt; have := (x1 - x2).le_toInt; omega
  have a2 := c_mask (x1 - x2) 15 4 (by decide) (by decide)
  have a3 : ((2 ^ 4 : Nat) : Int) = 16 := by decide
  rw [a3] at a2
  omega
theorem own_cmp {gp nx : Int32} {kg : Nat → Int64} {ii : Nat} (hg0 : ¬ gp < 0) (hgl : gp.toNatClampNeg < 16) (hn0 : ¬ nx < 0) (hnx : nx.toNatClampNeg = (gp.toNatClampNeg + ii) % 16) (hi0 : 0 < ii) (hi : ii < 16) :
    (((nx - hmI (kg nx.toNatClampNeg)) &&& (15 : Int32)) < ((nx - gp) &&& (15 : Int32))) ↔ ((gp.toNatClampNeg + ii) % 16 + 16 - hm (kg ((gp.toNatClampNeg + ii) % 16))) % 16 < ii := by
  have b1 := own_msk hn0 (hm_spec (kg nx.toNatClampNeg)).1 (by omega) (hm_lt (kg nx.toNatClampNeg))
  have b2 := own_msk hn0 hg0 (by omega) hgl
  rw [Int32.lt_iff_toInt_lt, b1, b2, ← hnx]
  show _ ↔ (nx.toNatClampNeg + 16 - (hmI (kg nx.toNatClampNeg)).toNatClampNeg) % 16 < ii
  have := hm_lt (kg nx.toNatClampNeg)
  show _ ↔ _
  have e3 : (nx.toNatClampNeg + 16 - gp.toNatClampNeg) % 16 = ii := by omega
  rw [e3]
  omega
theorem own_skipW {gp nx : Int32} {kg : Nat → Int64} {ii : Nat} (hg0 : ¬ gp < 0) (hn0 : ¬ nx < 0) (hnx : nx.toNatClampNeg = (gp.toNatClampNeg + ii) % 16) (hi : ii < 16) (hG : Gap hm kg gp.toNatClampNeg ii) (h0 : ¬ kg nx.toNatClampNeg = 0) (hc : ((nx - hmI (kg nx.toNatClampNeg)) &&& (15 : Int32)) < ((nx - gp) &&& (15 : Int32))) : Gap hm kg gp.toNatClampNeg (ii + 1) :=
  own_skip hm_lt hG hi (by rw [← hnx]; exact h0) ((own_cmp hg0 hG.1 hn0 hnx hG.2.1 hi).mp hc)
theorem own_moveW {gp nx : Int32} {kg : Nat → Int64} {ii : Nat} (hg0 : ¬ gp < 0) (hn0 : ¬ nx < 0) (hnx : nx.toNatClampNeg = (gp.toNatClampNeg + ii) % 16) (hi : ii < 16) (hG : Gap hm kg gp.toNatClampNeg ii) (h0 : ¬ kg nx.toNatClampNeg = 0) (hc : ¬ ((nx - hmI (kg nx.toNatClampNeg)) &&& (15 : Int32)) < ((nx - gp) &&& (15 : Int32))) : Gap hm (upd kg gp.toNatClampNeg (kg nx.toNatClampNeg)) nx.toNatClampNeg 1 := by
  have := own_move hm_lt hG hi (by rw [← hnx]; exact h0) (fun q => hc ((own_cmp hg0 hG.1 hn0 hnx hG.2.1 hi).mpr q))
  rw [← hnx] at this; exact this
theorem own_moveN {kg kf : Nat → Int64} {gp nx : Nat} (hn : nx < 16) (hfw : ∀ u, u < 16 → kg u ≠ 0 → kf u ≠ 0) (g0 : kg gp ≠ 0) : ∀ u, u < 16 → upd kg gp (kg nx) u ≠ 0 → kf u ≠ 0 := fun u hu q => by
  by_cases r : u = gp
  · subst r; exact hfw u hu g0
  · rw [upd_miss r] at q; exact hfw u hu q
theorem own_moveV {kg vg : Nat → Int64} {gp nx : Nat} (h0 : ¬ kg nx = 0) (hv : ∀ u, u < 16 → u ≠ gp → kg u = 0 → vg u = 0) : ∀ u, u < 16 → u ≠ nx → upd kg gp (kg nx) u = 0 → upd vg gp (vg nx) u = 0 := fun u hu q e => by
  by_cases r : u = gp
  · subst r; rw [upd_hit] at e; exact absurd e h0
  · rw [upd_miss r] at e ⊢; exact hv u hu r e
theorem own_upd0 {vf : Nat → Int64} {s : Nat} {w : Int64} (h : ∀ i, vf i = 0) (q : w = 0) : ∀ i, upd vf s w i = 0 := fun i => by
  by_cases r : i = s
  · subst r; rw [upd_hit]; exact q
  · rw [upd_miss r]; exact h i
theorem own_addR {kf vf kf' vf' : Nat → Int64} {key : Int64} (h : (∀ v, ¬ In kf vf key v) ∧ ∀ k v, k ≠ 0 → (In kf' vf' k v ↔ if k = key then v = 0 else In kf vf k v)) : ∀ kk vv, kk ≠ 0 → (In kf' vf' kk vv ↔ if kk = key then (vv = 0 ∧ ∀ v', ¬ In kf vf key v') ∨ In kf vf key vv else In kf vf kk vv) := fun kk vv q => by
  rw [h.2 kk vv q]
  by_cases r : kk = key
  · rw [if_pos r, if_pos r]
    exact ⟨fun z => Or.inl ⟨z, h.1⟩, fun z => z.elim (·.1) (fun y => absurd y (h.1 _))⟩
  · rw [if_neg r, if_neg r]
theorem own_addS {kf vf : Nat → Int64} {key : Int64} {s : Nat} (e : kf s = key) (hs : s < 16) : ∀ kk vv, kk ≠ 0 → (In kf vf kk vv ↔ if kk = key then (vv = 0 ∧ ∀ v', ¬ In kf vf key v') ∨ In kf vf key vv else In kf vf kk vv) := fun kk vv q => by
  by_cases r : kk = key
  · rw [if_pos r, r]
    exact ⟨Or.inr, fun z => z.elim (fun y => absurd ⟨s, hs, e, rfl⟩ (y.2 (vf s))) id⟩
  · rw [if_neg r]
theorem own_remS {kf vf : Nat → Int64} {key : Int64} (h : ¬ ∃ t, t < 16 ∧ kf t = key) : ∀ kk vv, kk ≠ 0 → (In kf vf kk vv ↔ kk ≠ key ∧ In kf vf kk vv) := fun kk vv q =>
  ⟨fun z => ⟨fun r => h (by obtain ⟨s, hs, e, _⟩ := z; exact ⟨s, hs, e.trans r⟩), z⟩, fun z => z.2⟩
def eM : Int64 → Int64 → Prop := fun _ _ => False
def addM (key : Int64) (M : Int64 → Int64 → Prop) (k v : Int64) : Prop := if k = key then (v = 0 ∧ ∀ v', ¬ M key v') ∨ M key v else M k v
def remM (key : Int64) (M : Int64 → Int64 → Prop) (k v : Int64) : Prop := k ≠ key ∧ M k v
def putM (key val : Int64) (M : Int64 → Int64 → Prop) (k v : Int64) : Prop := if k = key then v = val else M k v
/-- an operation looks at the entries of its key alone, and turns no other key's -/
def Lcl (key : Int64) (R : (Int64 → Int64 → Prop) → Int64 → Int64 → Prop) : Prop := (∀ M M' k v, (∀ w, M key w ↔ M' key w) → (∀ w, M k w ↔ M' k w) → (R M k v ↔ R M' k v)) ∧ ∀ M k v, k ≠ key → (R M k v ↔ M k v)
theorem addM_l (key : Int64) : Lcl key (addM key) := by
  refine ⟨fun M M' k v h1 h2 => ?_, fun M k v q => ?_⟩
  · unfold addM
    by_cases r : k = key
    · rw [if_pos r, if_pos r]; simp only [h1]
    · rw [if_neg r, if_neg r]; exact h2 v
  · unfold addM; rw [if_neg q]
theorem remM_l (key : Int64) : Lcl key (remM key) :=
  ⟨fun M M' k v h1 h2 => ⟨fun z => ⟨z.1, (h2 v).mp z.2⟩, fun z => ⟨z.1, (h2 v).mpr z.2⟩⟩, fun M k v q => ⟨fun z => z.2, fun z => ⟨q, z⟩⟩⟩
theorem putM_l (key val : Int64) : Lcl key (putM key val) := by
  refine ⟨fun M M' k v h1 h2 => ?_, fun M k v q => ?_⟩
  · unfold putM
    by_cases r : k = key
    · rw [if_pos r, if_pos r]
    · rw [if_neg r, if_neg r]; exact h2 v
  · unfold putM; rw [if_neg q]
theorem own_nar01 {b : Int32} (h : b = 1 ∨ b = 0) : nar .boolean b = b := by rcases h with rfl | rfl <;> rfl
theorem own_get0 {kf vf : Nat → Int64} {key w : Int64} (h : ∀ i, vf i = 0) (q : In kf vf key w) : (0 : Int64) = w := by
  obtain ⟨s, _, _, e⟩ := q; exact (h s).symm.trans e
theorem own_get1 {kf vf : Nat → Int64} {key w : Int64} {tk : Int32} {mm s : Nat} (hP : PI hm kf vf tk mm) (hk : key ≠ 0) (hf : Fnd hm kf key s) (q : In kf vf key w) : vf s = w := by
  obtain ⟨u, hu, e1, e2⟩ := q; rw [own_hit hP.1 hP.2.1 hk hf hu e1]; exact e2
theorem own_get2 {kf vf : Nat → Int64} {key : Int64} {tk : Int32} {mm s : Nat} (hP : PI hm kf vf tk mm) (hf : Fnd hm kf key s) (q : ∀ w, ¬ In kf vf key w) : vf s = 0 :=
  hP.2.2.2.1 s (own_fls hf) ((own_lk hf).resolve_right fun e => q _ ⟨s, own_fls hf, e, rfl⟩)
theorem ef_rm13_n (m : MethodId) (o0 : Addr) (key : Int64) : entryFrame m #[(.ref o0), (.long key)] 5 = mkF m 0 #[.val (.ref o0), .val (.long key), .second, .unset, .unset] [] := by first | (simp [entryFrame, mkF, argsToLocals, Value.category]; done) | rfl
def Q_rm13_n (Z : State) (o0 : Addr) (key : Int64) (ka : Addr) (kf vf : Nat → Int64) (tk : Int32) (mm : Nat) (h0 : Heap) (n0 : Nat) (v : Option Value) (h : Heap) (L : List Loc) : Prop := ∃ (b : Int32) (kf' vf' : Nat → Int64) (tk' : Int32), v = some (.int b) ∧ Fr n0 L ∧ Keep h0 h [o0, ka] ∧ Exa Z h o0 "com/example/clockwrap/clockwrap/store/LongTable$Part" ∧ Fld Z h o0 "com/example/clockwrap/clockwrap/store/LongTable$Part" "keys" "[J" (.ref ka) ∧ Fld Z h o0 "com/example/clockwrap/clockwrap/store/LongTable$Part" "values" "[J" .null ∧ Fld Z h o0 "com/example/clockwrap/clockwrap/store/LongTable$Part" "shift" "I" (.int (60 : Int32)) ∧ Fld Z h o0 "com/example/clockwrap/clockwrap/store/LongTable$Part" "taken" "I" (.int tk') ∧ Ara Z h ka .long 16 (fun i => .long (kf' i)) ∧ PI hm kf' vf' tk' (mm + 1) ∧ (∀ kk vv, kk ≠ 0 → (In kf' vf' kk vv ↔ if kk = key then (vv = 0 ∧ ∀ v', ¬ In kf vf key v') ∨ In kf vf key vv else In kf vf kk vv)) ∧ ((∀ i, vf i = 0) → ∀ i, vf' i = 0)
theorem d13_0 : decode prog_33_method_3_code 0 = .ok (.aload_n 0, 1) := by decide +kernel
theorem d13_1 : decode prog_33_method_3_code 1 = .ok (.lload_n 1, 1) := by decide +kernel
theorem d13_2 : decode prog_33_method_3_code 2 = .ok (.invokevirtual 27, 3) := by decide +kernel
theorem d13_5 : decode prog_33_method_3_code 5 = .ok (.istore_n 3, 1) := by decide +kernel
theorem d13_6 : decode prog_33_method_3_code 6 = .ok (.aload_n 0, 1) := by decide +kernel
theorem d13_7 : decode prog_33_method_3_code 7 = .ok (.getfield 11, 3) := by decide +kernel
theorem d13_10 : decode prog_33_method_3_code 10 = .ok (.iload_n 3, 1) := by decide +kernel
theorem d13_11 : decode prog_33_method_3_code 11 = .ok (.laload, 1) := by decide +kernel
theorem d13_12 : decode prog_33_method_3_code 12 = .ok (.lconst 0, 1) := by decide +kernel
theorem d13_13 : decode prog_33_method_3_code 13 = .ok (.lcmp, 1) := by decide +kernel
theorem d13_14 : decode prog_33_method_3_code 14 = .ok (.ifCond .ne 7, 3) := by decide +kernel
theorem d13_17 : decode prog_33_method_3_code 17 = .ok (.iconst 1, 1) := by decide +kernel
theorem d13_18 : decode prog_33_method_3_code 18 = .ok (.goto 4, 3) := by decide +kernel
theorem d13_21 : decode prog_33_method_3_code 21 = .ok (.iconst 0, 1) := by decide +kernel
theorem d13_22 : decode prog_33_method_3_code 22 = .ok (.istore 4, 2) := by decide +kernel
theorem d13_24 : decode prog_33_method_3_code 24 = .ok (.iload 4, 2) := by decide +kernel
theorem d13_26 : decode prog_33_method_3_code 26 = .ok (.ifCond .eq 10, 3) := by decide +kernel
theorem d13_29 : decode prog_33_method_3_code 29 = .ok (.aload_n 0, 1) := by decide +kernel
theorem d13_30 : decode prog_33_method_3_code 30 = .ok (.iload_n 3, 1) := by decide +kernel
theorem d13_31 : decode prog_33_method_3_code 31 = .ok (.lload_n 1, 1) := by decide +kernel
theorem d13_32 : decode prog_33_method_3_code 32 = .ok (.lconst 0, 1) := by decide +kernel
theorem pd_2 : parseMethodDescriptor "(IJJ)V" = some ⟨[.int, .long, .long], none⟩ := by decide +kernel
theorem d13_33 : decode prog_33_method_3_code 33 = .ok (.invokevirtual 31, 3) := by decide +kernel
theorem d13_36 : decode prog_33_method_3_code 36 = .ok (.iload 4, 2) := by decide +kernel
theorem d13_38 : decode prog_33_method_3_code 38 = .ok (.ireturn, 1) := by decide +kernel
set_option maxRecDepth 65536 in
set_option maxHeartbeats 40000000 in
theorem rm13_n (l : Launch) (Z : State) (a0 : Array Value) (hw : ∀ d ∈ tables_1, d.before a0 Z = true) (ws : List Jvm.Cond) (o0 : Addr) (key : Int64) (ka : Addr) (kf vf : Nat → Int64) (tk : Int32) (mm : Nat) (h0 : Heap) (n0 : Nat) (Z0 : n0 ≤ h0.size) (geo : n0 ≤ o0) (gek : n0 ≤ ka) (nok : o0 ≠ ka) (E0 : Exa Z h0 o0 "com/example/clockwrap/clockwrap/store/LongTable$Part") (Fk : Fld Z h0 o0 "com/example/clockwrap/clockwrap/store/LongTable$Part" "keys" "[J" (.ref ka)) (Fv : Fld Z h0 o0 "com/example/clockwrap/clockwrap/store/LongTable$Part" "values" "[J" .null) (Fs : Fld Z h0 o0 "com/example/clockwrap/clockwrap/store/LongTable$Part" "shift" "I" (.int (60 : Int32))) (Ft : Fld Z h0 o0 "com/example/clockwrap/clockwrap/store/LongTable$Part" "taken" "I" (.int tk)) (Va : Ara Z h0 ka .long 16 (fun i => .long (kf i))) (hP : PI hm kf vf tk mm) (hm10 : mm < 10) (hk : key ≠ 0) :
    MetFree l (⟨"com/example/clockwrap/clockwrap/store/LongTable$Part", "add", "(J)Z"⟩ : MethodName) (head1 (Jvm.Cond.code (⟨"com/example/clockwrap/clockwrap/store/LongTable$Part", "add", "(J)Z"⟩ : MethodName) prog_33_method_3_code 5 (some .boolean) :: ws) ({ frames := 2, cells := 0, slots := 0, locals := 40 } : Room)) (fun a U => a = #[(.ref o0), (.long key)] ∧ Z.Warmed39 U.vm ∧ U.heap = h0) (fun _ _ _ _ _ => True) (fun _ U o U' => ∃ v L, o = .returned v ∧ (Q_rm13_n Z o0 key ka kf vf tk mm h0 n0) v U'.heap L ∧ FrameEnd U o U' L ({ frames := 2, cells := 0, slots := 0, locals := 40 } : Room).cells ({ frames := 2, cells := 0, slots := 0, locals := 40 } : Room).slots) := by
  refine MetFree.of_bodySF (plainFor_of_name pn_1) hisR ?_
  intro p e s m args below meth c s₁ Bd hml0 hP hK
  obtain ⟨rfl, hZ, hh⟩ := hP
  have hx := Bd.exec
  have hby := Bd.bytes
  have hml : c.maxLocals = 5 := hml0
  have hown : s.vm.findClass "com/example/clockwrap/clockwrap/store/LongTable$Part" = some m.cls := findClass_of_methodNamed Bd.named
  have hnm := (name_of_methodNamed Bd.named Bd.method).1
  have X0 : Stand p l e ({ frames := 2, cells := 0, slots := 0, locals := 40 } : Room) s m #[(.ref o0), (.long key)] below meth c s₁ [] 0 0 := Stand.of_body Bd
  have e0 : s₁.heap = h0 := by rw [← hh, Bd.state]; rfl
  have N0 := Fr.nil n0
  show OFin p e below (ORet (Q_rm13_n Z o0 key ka kf vf tk mm h0 n0) s ({ frames := 2, cells := 0, slots := 0, locals := 40 } : Room).cells ({ frames := 2, cells := 0, slots := 0, locals := 40 } : Room).slots) (s₁.setTop (entryFrame m #[(.ref o0), (.long key)] 5))
  refine OFin.go (fun t k => castTop (ef_rm13_n m o0 key) k) ?_
  have K0 := Keep.refl h0 [o0, ka]
  show OFin p e below (ORet (Q_rm13_n Z o0 key ka kf vf tk mm h0 n0) s ({ frames := 2, cells := 0, slots := 0, locals := 40 } : Room).cells ({ frames := 2, cells := 0, slots := 0, locals := 40 } : Room).slots) (s₁.setTop (mkF m 0 #[.val (.ref o0), .val (.long key), .second, .unset, .unset] []))
  have S1 : ∀ t, Steps p.tables e below (s₁.setTop (mkF m 2 #[.val (.ref o0), .val (.long key), .second, .unset, .unset] [(.long key), (.ref o0)])) t → Steps p.tables e below (s₁.setTop (mkF m 0 #[.val (.ref o0), .val (.long key), .second, .unset, .unset] [])) t := by
    intro t k
    show Steps p.tables e below (s₁.setTop (mkF m 0 #[.val (.ref o0), .val (.long key), .second, .unset, .unset] [])) t
    refine XS.aloadN X0.here hx rfl (hb hby d13_0) rfl rfl ?_
    show Steps p.tables e below (s₁.setTop (mkF m 1 #[.val (.ref o0), .val (.long key), .second, .unset, .unset] [(.ref o0)])) t
    refine XS.lloadN X0.here hx rfl (hb hby d13_1) rfl ?_
    exact k
  refine OFin.go S1 ?_
  obtain ⟨_, T2, Lc2, X2, hQ2, st2⟩ := privQ X0 hx hZ (y := (⟨"com/example/clockwrap/clockwrap/store/LongTable$Part", "slot", "(J)I"⟩ : MethodName)) hown (hw _ (List.mem_of_getElem? (i := 53) rfl)) (hw _ (List.mem_of_getElem? (i := 54) rfl)) (hw _ (List.mem_of_getElem? (i := 14) rfl)) (hw _ (List.mem_of_getElem? (i := 56) rfl)) (hw _ (List.mem_of_getElem? (i := 55) rfl)) (hw _ (List.mem_of_getElem? (i := 13) rfl)) (by decide) E0 (argsL := [(.long key)]) (rest := []) (rm10 l Z a0 hw [] o0 key ka kf h0 n0 Z0 E0 Fs Fk Va (hP.free (by omega))) (W := 0) (by decide) (by decide) e0 (g := (mkF m 2 #[.val (.ref o0), .val (.long key), .second, .unset, .unset] [(.long key), (.ref o0)])) rfl (by rw [hml]; rfl) (lenOf pd_1 rfl) rfl (by show 2 * 0 + _ ≤ _; exact Nat.le_of_eq rfl) (hb hby d13_2) (Nat.le_of_ble_eq_true rfl) (Nat.le_of_ble_eq_true rfl)
  obtain ⟨sl, rfl, N2q, e2, hs0, hfn⟩ := hQ2
  have N2 := Fr.app N0 N2q
  refine OFin.go st2 ?_
  show OFin p e below _ (T2.setTop (mkF m 5 #[.val (.ref o0), .val (.long key), .second, .unset, .unset] [(.int sl)]))
  have S3 : ∀ t, Steps p.tables e below (T2.setTop (mkF m 7 #[.val (.ref o0), .val (.long key), .second, .val (.int sl), .unset] [(.ref o0)])) t → Steps p.tables e below (T2.setTop (mkF m 5 #[.val (.ref o0), .val (.long key), .second, .unset, .unset] [(.int sl)])) t := by
    intro t k
    show Steps p.tables e below (T2.setTop (mkF m 5 #[.val (.ref o0), .val (.long key), .second, .unset, .unset] [(.int sl)])) t
    refine XS.istoreN X2.here hx rfl (hb hby d13_5) rfl (l' := #[.val (.ref o0), .val (.long key), .second, .val (.int sl), .unset]) rfl ?_
    show Steps p.tables e below (T2.setTop (mkF m 6 #[.val (.ref o0), .val (.long key), .second, .val (.int sl), .unset] [])) t
    refine XS.aloadN X2.here hx rfl (hb hby d13_6) rfl rfl ?_
    exact k
  refine OFin.go S3 ?_
  obtain ⟨T4, X4, e4, st4⟩ := getF X2 hx hZ hown (host := "") (Or.inl (hw _ (List.mem_of_getElem? (i := 20) rfl))) Via.refl e2 Fk (g := (mkF m 7 #[.val (.ref o0), .val (.long key), .second, .val (.int sl), .unset] [(.ref o0)])) rfl rfl (hb hby d13_7)
  refine OFin.go st4 ?_
  show OFin p e below _ (T4.setTop (mkF m 10 #[.val (.ref o0), .val (.long key), .second, .val (.int sl), .unset] [(.ref ka)]))
  have S5 : ∀ t, Steps p.tables e below (T4.setTop (mkF m 14 #[.val (.ref o0), .val (.long key), .second, .val (.int sl), .unset] [(.int (lcmpW (kf sl.toNatClampNeg) (0 : Int64)))])) t → Steps p.tables e below (T4.setTop (mkF m 10 #[.val (.ref o0), .val (.long key), .second, .val (.int sl), .unset] [(.ref ka)])) t := by
    intro t k
    show Steps p.tables e below (T4.setTop (mkF m 10 #[.val (.ref o0), .val (.long key), .second, .val (.int sl), .unset] [(.ref ka)])) t
    refine XS.iloadN X4.here hx rfl (hb hby d13_10) rfl ?_
    show Steps p.tables e below (T4.setTop (mkF m 11 #[.val (.ref o0), .val (.long key), .second, .val (.int sl), .unset] [(.int sl), (.ref ka)])) t
    refine rdJ X4 hx hZ e4 Va (i := sl.toNatClampNeg) hs0 rfl (own_fls hfn) (x := (.long (kf sl.toNatClampNeg))) rfl (g := (mkF m 11 #[.val (.ref o0), .val (.long key), .second, .val (.int sl), .unset] [(.int sl), (.ref ka)])) rfl rfl (hb hby d13_11) ?_
    show Steps p.tables e below (T4.setTop (mkF m 12 #[.val (.ref o0), .val (.long key), .second, .val (.int sl), .unset] [(.long (kf sl.toNatClampNeg))])) t
    refine XS.lconst X4.here hx rfl (hb hby d13_12) ?_
    show Steps p.tables e below (T4.setTop (mkF m 13 #[.val (.ref o0), .val (.long key), .second, .val (.int sl), .unset] [(.long (0 : Int64)), (.long (kf sl.toNatClampNeg))])) t
    refine XS.lcmp X4.here hx rfl (hb hby d13_13) rfl ?_
    exact k
  refine OFin.go S5 ?_
  have J6 : ∀ t, Steps p.tables e below (T4.setTop (mkF m 22 #[.val (.ref o0), .val (.long key), .second, .val (.int sl), .unset] [(.int (bi ((kf sl.toNatClampNeg) = (0 : Int64))))])) t → Steps p.tables e below (T4.setTop (mkF m 14 #[.val (.ref o0), .val (.long key), .second, .val (.int sl), .unset] [(.int (lcmpW (kf sl.toNatClampNeg) (0 : Int64)))])) t := by
    intro t k
    show Steps p.tables e below (T4.setTop (mkF m 14 #[.val (.ref o0), .val (.long key), .second, .val (.int sl), .unset] [(.int (lcmpW (kf sl.toNatClampNeg) (0 : Int64)))])) t
    by_cases h7 : ((kf sl.toNatClampNeg) = (0 : Int64))
    · refine XS.ifNo X4.here hx rfl (hb hby d13_14) rfl (lc_ne_f h7) ?_
      show Steps p.tables e below (T4.setTop (mkF m 17 #[.val (.ref o0), .val (.long key), .second, .val (.int sl), .unset] [])) t
      refine XS.iconst X4.here hx rfl (hb hby d13_17) ?_
      show Steps p.tables e below (T4.setTop (mkF m 18 #[.val (.ref o0), .val (.long key), .second, .val (.int sl), .unset] [(.int (1 : Int32))])) t
      refine XS.goto X4.here hx rfl (pc0 := 18) (pc' := 22) rfl (hb hby d13_18) (by decide) (by decide) ?_
      show Steps p.tables e below (T4.setTop (mkF m 22 #[.val (.ref o0), .val (.long key), .second, .val (.int sl), .unset] [(.int (1 : Int32))])) t
      exact (castTop (congrArg (fun zq_ => (mkF m 22 #[.val (.ref o0), .val (.long key), .second, .val (.int sl), .unset] [(.int zq_)])) (bi_t h7).symm) k)
    · refine XS.ifYes X4.here hx rfl (pc0 := 14) (pc' := 21) rfl (hb hby d13_14) rfl (lc_ne_t h7) (by decide) (by decide) ?_
      show Steps p.tables e below (T4.setTop (mkF m 21 #[.val (.ref o0), .val (.long key), .second, .val (.int sl), .unset] [])) t
      refine XS.iconst X4.here hx rfl (hb hby d13_21) ?_
      show Steps p.tables e below (T4.setTop (mkF m 22 #[.val (.ref o0), .val (.long key), .second, .val (.int sl), .unset] [(.int (0 : Int32))])) t
      exact (castTop (congrArg (fun zq_ => (mkF m 22 #[.val (.ref o0), .val (.long key), .second, .val (.int sl), .unset] [(.int zq_)])) (bi_f h7).symm) k)
  refine OFin.go J6 ?_
  have S8 : ∀ t, Steps p.tables e below (T4.setTop (mkF m 26 #[.val (.ref o0), .val (.long key), .second, .val (.int sl), .val (.int (bi ((kf sl.toNatClampNeg) = (0 : Int64))))] [(.int (bi ((kf sl.toNatClampNeg) = (0 : Int64))))])) t → Steps p.tables e below (T4.setTop (mkF m 22 #[.val (.ref o0), .val (.long key), .second, .val (.int sl), .unset] [(.int (bi ((kf sl.toNatClampNeg) = (0 : Int64))))])) t := by
    intro t k
    show Steps p.tables e below (T4.setTop (mkF m 22 #[.val (.ref o0), .val (.long key), .second, .val (.int sl), .unset] [(.int (bi ((kf sl.toNatClampNeg) = (0 : Int64))))])) t
    refine XS.istore X4.here hx rfl (hb hby d13_22) rfl (l' := #[.val (.ref o0), .val (.long key), .second, .val (.int sl), .val (.int (bi ((kf sl.toNatClampNeg) = (0 : Int64))))]) rfl ?_
    show Steps p.tables e below (T4.setTop (mkF m 24 #[.val (.ref o0), .val (.long key), .second, .val (.int sl), .val (.int (bi ((kf sl.toNatClampNeg) = (0 : Int64))))] [])) t
    refine XS.iload X4.here hx rfl (hb hby d13_24) rfl ?_
    exact k
  refine OFin.go S8 ?_
  by_cases h9 : ((kf sl.toNatClampNeg) = (0 : Int64))
  · -- pc 26: ((kf sl.toNatClampNeg) = (0 : Int64))
    have S10 : ∀ t, Steps p.tables e below (T4.setTop (mkF m 29 #[.val (.ref o0), .val (.long key), .second, .val (.int sl), .val (.int (bi ((kf sl.toNatClampNeg) = (0 : Int64))))] [])) t → Steps p.tables e below (T4.setTop (mkF m 26 #[.val (.ref o0), .val (.long key), .second, .val (.int sl), .val (.int (bi ((kf sl.toNatClampNeg) = (0 : Int64))))] [(.int (bi ((kf sl.toNatClampNeg) = (0 : Int64))))])) t := by
      intro t k
      show Steps p.tables e below (T4.setTop (mkF m 26 #[.val (.ref o0), .val (.long key), .second, .val (.int sl), .val (.int (bi ((kf sl.toNatClampNeg) = (0 : Int64))))] [(.int (bi ((kf sl.toNatClampNeg) = (0 : Int64))))])) t
      refine XS.ifNo X4.here hx rfl (hb hby d13_26) rfl (bi_eq_f h9) ?_
      exact k
    refine OFin.go S10 ?_
    have S11 : ∀ t, Steps p.tables e below (T4.setTop (mkF m 33 #[.val (.ref o0), .val (.long key), .second, .val (.int sl), .val (.int (bi ((kf sl.toNatClampNeg) = (0 : Int64))))] [(.long (0 : Int64)), (.long key), (.int sl), (.ref o0)])) t → Steps p.tables e below (T4.setTop (mkF m 29 #[.val (.ref o0), .val (.long key), .second, .val (.int sl), .val (.int (bi ((kf sl.toNatClampNeg) = (0 : Int64))))] [])) t := by
      intro t k
      show Steps p.tables e below (T4.setTop (mkF m 29 #[.val (.ref o0), .val (.long key), .second, .val (.int sl), .val (.int (bi ((kf sl.toNatClampNeg) = (0 : Int64))))] [])) t
      refine XS.aloadN X4.here hx rfl (hb hby d13_29) rfl rfl ?_
      show Steps p.tables e below (T4.setTop (mkF m 30 #[.val (.ref o0), .val (.long key), .second, .val (.int sl), .val (.int (bi ((kf sl.toNatClampNeg) = (0 : Int64))))] [(.ref o0)])) t
      refine XS.iloadN X4.here hx rfl (hb hby d13_30) rfl ?_
      show Steps p.tables e below (T4.setTop (mkF m 31 #[.val (.ref o0), .val (.long key), .second, .val (.int sl), .val (.int (bi ((kf sl.toNatClampNeg) = (0 : Int64))))] [(.int sl), (.ref o0)])) t
      refine XS.lloadN X4.here hx rfl (hb hby d13_31) rfl ?_
      show Steps p.tables e below (T4.setTop (mkF m 32 #[.val (.ref o0), .val (.long key), .second, .val (.int sl), .val (.int (bi ((kf sl.toNatClampNeg) = (0 : Int64))))] [(.long key), (.int sl), (.ref o0)])) t
      refine XS.lconst X4.here hx rfl (hb hby d13_32) ?_
      exact k
    refine OFin.go S11 ?_
    obtain ⟨_, T12, Lc12, X12, hQ12, st12⟩ := privQ X4 hx hZ (y := (⟨"com/example/clockwrap/clockwrap/store/LongTable$Part", "place", "(IJJ)V"⟩ : MethodName)) hown (hw _ (List.mem_of_getElem? (i := 72) rfl)) (hw _ (List.mem_of_getElem? (i := 73) rfl)) (hw _ (List.mem_of_getElem? (i := 14) rfl)) (hw _ (List.mem_of_getElem? (i := 75) rfl)) (hw _ (List.mem_of_getElem? (i := 74) rfl)) (hw _ (List.mem_of_getElem? (i := 13) rfl)) (by decide) E0 (argsL := [(.int sl), (.long key), (.long (0 : Int64))]) (rest := []) (rm14_n l Z a0 hw [] o0 sl key (0 : Int64) ka kf vf tk h0 n0 Z0 geo gek nok E0 Fk Fv Fs Ft Va hs0 (own_fls hfn) (own_t hP hm10).1) (W := 0) (by decide) (by decide) e4 (g := (mkF m 33 #[.val (.ref o0), .val (.long key), .second, .val (.int sl), .val (.int (bi ((kf sl.toNatClampNeg) = (0 : Int64))))] [(.long (0 : Int64)), (.long key), (.int sl), (.ref o0)])) rfl (by rw [hml]; rfl) (lenOf pd_2 rfl) rfl (by show 2 * 0 + _ ≤ _; exact Nat.le_of_eq rfl) (hb hby d13_33) (Nat.le_of_ble_eq_true rfl) (Nat.le_of_ble_eq_true rfl)
    obtain ⟨rfl, N12q, K12q, E12, Fk12, Fv12, Fs12, Ft12, Va12⟩ := hQ12
    have Z12 : n0 ≤ T12.heap.size := Nat.le_trans Z0 K12q.1
    have K12 := Keep.trans K0 K12q (allS (Or.inl (List.mem_of_getElem? (i := 0) rfl)) (allS (Or.inl (List.mem_of_getElem? (i := 1) rfl)) all0))
    have N12 := Fr.app N2 N12q
    refine OFin.go st12 ?_
    show OFin p e below _ (T12.setTop (mkF m 36 #[.val (.ref o0), .val (.long key), .second, .val (.int sl), .val (.int (bi ((kf sl.toNatClampNeg) = (0 : Int64))))] []))
    have S13 : ∀ t, Steps p.tables e below (T12.setTop (mkF m 38 #[.val (.ref o0), .val (.long key), .second, .val (.int sl), .val (.int (bi ((kf sl.toNatClampNeg) = (0 : Int64))))] [(.int (bi ((kf sl.toNatClampNeg) = (0 : Int64))))])) t → Steps p.tables e below (T12.setTop (mkF m 36 #[.val (.ref o0), .val (.long key), .second, .val (.int sl), .val (.int (bi ((kf sl.toNatClampNeg) = (0 : Int64))))] [])) t := by
      intro t k
      show Steps p.tables e below (T12.setTop (mkF m 36 #[.val (.ref o0), .val (.long key), .second, .val (.int sl), .val (.int (bi ((kf sl.toNatClampNeg) = (0 : Int64))))] [])) t
      refine XS.iload X12.here hx rfl (hb hby d13_36) rfl ?_
      exact k
    refine OFin.go S13 ?_
    exact finZ X12 hx Bd.notSynchronized (t := .boolean) Bd.returns (by simp) (hb hby d13_38) (nar_bi _) (by decide) (by decide) (by exact ⟨_, upd kf sl.toNatClampNeg key, upd vf sl.toNatClampNeg 0, tk + 1, rfl, N12, K12, E12, Fk12, Fv12, Fs12, Ft12, Va12, (own_addNew hP (by omega) hk hfn h9 (own_t hP hm10).2.1).1, own_addR (own_addNew hP (by omega) hk hfn h9 (own_t hP hm10).2.1).2, fun q => own_upd0 q rfl⟩)
  · -- pc 26: not ((kf sl.toNatClampNeg) = (0 : Int64))
    have S14 : ∀ t, Steps p.tables e below (T4.setTop (mkF m 36 #[.val (.ref o0), .val (.long key), .second, .val (.int sl), .val (.int (bi ((kf sl.toNatClampNeg) = (0 : Int64))))] [])) t → Steps p.tables e below (T4.setTop (mkF m 26 #[.val (.ref o0), .val (.long key), .second, .val (.int sl), .val (.int (bi ((kf sl.toNatClampNeg) = (0 : Int64))))] [(.int (bi ((kf sl.toNatClampNeg) = (0 : Int64))))])) t := by
      intro t k
      show Steps p.tables e below (T4.setTop (mkF m 26 #[.val (.ref o0), .val (.long key), .second, .val (.int sl), .val (.int (bi ((kf sl.toNatClampNeg) = (0 : Int64))))] [(.int (bi ((kf sl.toNatClampNeg) = (0 : Int64))))])) t
      refine XS.ifYes X4.here hx rfl (pc0 := 26) (pc' := 36) rfl (hb hby d13_26) rfl (bi_eq_t h9) (by decide) (by decide) ?_
      exact k
    refine OFin.go S14 ?_
    have S15 : ∀ t, Steps p.tables e below (T4.setTop (mkF m 38 #[.val (.ref o0), .val (.long key), .second, .val (.int sl), .val (.int (bi ((kf sl.toNatClampNeg) = (0 : Int64))))] [(.int (bi ((kf sl.toNatClampNeg) = (0 : Int64))))])) t → Steps p.tables e below (T4.setTop (mkF m 36 #[.val (.ref o0), .val (.long key), .second, .val (.int sl), .val (.int (bi ((kf sl.toNatClampNeg) = (0 : Int64))))] [])) t := by
      intro t k
      show Steps p.tables e below (T4.setTop (mkF m 36 #[.val (.ref o0), .val (.long key), .second, .val (.int sl), .val (.int (bi ((kf sl.toNatClampNeg) = (0 : Int64))))] [])) t
      refine XS.iload X4.here hx rfl (hb hby d13_36) rfl ?_
      exact k
    refine OFin.go S15 ?_
    exact finZ X4 hx Bd.notSynchronized (t := .boolean) Bd.returns (by simp) (hb hby d13_38) (nar_bi _) (by decide) (by decide) (by rw [e4]; exact ⟨_, kf, vf, tk, rfl, N2, K0, E0, Fk, Fv, Fs, Ft, Va, hP.mono (by omega), own_addS ((own_lk hfn).resolve_left h9) (own_fls hfn), fun q => q⟩)
theorem ef_rm19_n (m : MethodId) (o0 : Addr) (u1 : Int32) : entryFrame m #[(.ref o0), (.int u1)] 5 = mkF m 0 #[.val (.ref o0), .val (.int u1), .unset, .unset, .unset] [] := by first | (simp [entryFrame, mkF, argsToLocals, Value.category]; done) | rfl
def Q_rm19_n (Z : State) (o0 : Addr) (u1 : Int32) (ka : Addr) (kf vf : Nat → Int64) (tk : Int32) (mm : Nat) (h0 : Heap) (n0 : Nat) (v : Option Value) (h : Heap) (L : List Loc) : Prop := ∃ (kf' vf' : Nat → Int64), v = none ∧ Fr n0 L ∧ Keep h0 h [o0, ka] ∧ Exa Z h o0 "com/example/clockwrap/clockwrap/store/LongTable$Part" ∧ Fld Z h o0 "com/example/clockwrap/clockwrap/store/LongTable$Part" "keys" "[J" (.ref ka) ∧ Fld Z h o0 "com/example/clockwrap/clockwrap/store/LongTable$Part" "values" "[J" .null ∧ Fld Z h o0 "com/example/clockwrap/clockwrap/store/LongTable$Part" "shift" "I" (.int (60 : Int32)) ∧ Fld Z h o0 "com/example/clockwrap/clockwrap/store/LongTable$Part" "taken" "I" (.int tk) ∧ Ara Z h ka .long 16 (fun i => .long (kf' i)) ∧ (∀ tk' : Int32, tk'.toInt = tk.toInt - 1 → PI hm kf' vf' tk' (mm + 1)) ∧ (∀ kk vv, kk ≠ 0 → (In kf' vf' kk vv ↔ kk ≠ kf u1.toNatClampNeg ∧ In kf vf kk vv)) ∧ ((∀ i, vf i = 0) → ∀ i, vf' i = 0)
theorem d19_0 : decode prog_33_method_10_code 0 = .ok (.aload_n 0, 1) := by decide +kernel
theorem d19_1 : decode prog_33_method_10_code 1 = .ok (.getfield 11, 3) := by decide +kernel
theorem d19_4 : decode prog_33_method_10_code 4 = .ok (.arraylength, 1) := by decide +kernel
theorem d19_5 : decode prog_33_method_10_code 5 = .ok (.iconst 1, 1) := by decide +kernel
theorem d19_6 : decode prog_33_method_10_code 6 = .ok (.isub, 1) := by decide +kernel
theorem d19_7 : decode prog_33_method_10_code 7 = .ok (.istore_n 2, 1) := by decide +kernel
theorem d19_8 : decode prog_33_method_10_code 8 = .ok (.iload_n 1, 1) := by decide +kernel
theorem d19_9 : decode prog_33_method_10_code 9 = .ok (.istore_n 3, 1) := by decide +kernel
theorem d19_10 : decode prog_33_method_10_code 10 = .ok (.iload_n 3, 1) := by decide +kernel
theorem d19_11 : decode prog_33_method_10_code 11 = .ok (.iconst 1, 1) := by decide +kernel
theorem d19_12 : decode prog_33_method_10_code 12 = .ok (.iadd, 1) := by decide +kernel
theorem d19_13 : decode prog_33_method_10_code 13 = .ok (.iload_n 2, 1) := by decide +kernel
theorem d19_14 : decode prog_33_method_10_code 14 = .ok (.iand, 1) := by decide +kernel
theorem d19_15 : decode prog_33_method_10_code 15 = .ok (.istore 4, 2) := by decide +kernel
theorem d19_17 : decode prog_33_method_10_code 17 = .ok (.aload_n 0, 1) := by decide +kernel
theorem d19_18 : decode prog_33_method_10_code 18 = .ok (.getfield 11, 3) := by decide +kernel
theorem d19_21 : decode prog_33_method_10_code 21 = .ok (.iload 4, 2) := by decide +kernel
theorem d19_23 : decode prog_33_method_10_code 23 = .ok (.laload, 1) := by decide +kernel
theorem d19_24 : decode prog_33_method_10_code 24 = .ok (.lconst 0, 1) := by decide +kernel
theorem d19_25 : decode prog_33_method_10_code 25 = .ok (.lcmp, 1) := by decide +kernel
theorem d19_26 : decode prog_33_method_10_code 26 = .ok (.ifCond .eq 75, 3) := by decide +kernel
theorem d19_101 : decode prog_33_method_10_code 101 = .ok (.aload_n 0, 1) := by decide +kernel
theorem d19_102 : decode prog_33_method_10_code 102 = .ok (.getfield 11, 3) := by decide +kernel
theorem d19_105 : decode prog_33_method_10_code 105 = .ok (.iload_n 3, 1) := by decide +kernel
theorem d19_106 : decode prog_33_method_10_code 106 = .ok (.lconst 0, 1) := by decide +kernel
theorem d19_107 : decode prog_33_method_10_code 107 = .ok (.lastore, 1) := by decide +kernel
theorem d19_108 : decode prog_33_method_10_code 108 = .ok (.aload_n 0, 1) := by decide +kernel
theorem d19_109 : decode prog_33_method_10_code 109 = .ok (.getfield 35, 3) := by decide +kernel
theorem d19_112 : decode prog_33_method_10_code 112 = .ok (.ifnull 10, 3) := by decide +kernel
theorem d19_122 : decode prog_33_method_10_code 122 = .ok (.return_, 1) := by decide +kernel
theorem d19_29 : decode prog_33_method_10_code 29 = .ok (.iload 4, 2) := by decide +kernel
theorem d19_31 : decode prog_33_method_10_code 31 = .ok (.aload_n 0, 1) := by decide +kernel
theorem d19_32 : decode prog_33_method_10_code 32 = .ok (.aload_n 0, 1) := by decide +kernel
theorem d19_33 : decode prog_33_method_10_code 33 = .ok (.getfield 11, 3) := by decide +kernel
theorem d19_36 : decode prog_33_method_10_code 36 = .ok (.iload 4, 2) := by decide +kernel
theorem d19_38 : decode prog_33_method_10_code 38 = .ok (.laload, 1) := by decide +kernel
theorem d19_39 : decode prog_33_method_10_code 39 = .ok (.invokevirtual 48, 3) := by decide +kernel
theorem d19_42 : decode prog_33_method_10_code 42 = .ok (.isub, 1) := by decide +kernel
theorem d19_43 : decode prog_33_method_10_code 43 = .ok (.iload_n 2, 1) := by decide +kernel
theorem d19_44 : decode prog_33_method_10_code 44 = .ok (.iand, 1) := by decide +kernel
theorem d19_45 : decode prog_33_method_10_code 45 = .ok (.iload 4, 2) := by decide +kernel
theorem d19_47 : decode prog_33_method_10_code 47 = .ok (.iload_n 3, 1) := by decide +kernel
theorem d19_48 : decode prog_33_method_10_code 48 = .ok (.isub, 1) := by decide +kernel
theorem d19_49 : decode prog_33_method_10_code 49 = .ok (.iload_n 2, 1) := by decide +kernel
theorem d19_50 : decode prog_33_method_10_code 50 = .ok (.iand, 1) := by decide +kernel
theorem d19_51 : decode prog_33_method_10_code 51 = .ok (.if_icmp .lt 39, 3) := by decide +kernel
theorem d19_90 : decode prog_33_method_10_code 90 = .ok (.iload 4, 2) := by decide +kernel
theorem d19_92 : decode prog_33_method_10_code 92 = .ok (.iconst 1, 1) := by decide +kernel
theorem d19_93 : decode prog_33_method_10_code 93 = .ok (.iadd, 1) := by decide +kernel
theorem d19_94 : decode prog_33_method_10_code 94 = .ok (.iload_n 2, 1) := by decide +kernel
theorem d19_95 : decode prog_33_method_10_code 95 = .ok (.iand, 1) := by decide +kernel
theorem d19_96 : decode prog_33_method_10_code 96 = .ok (.istore 4, 2) := by decide +kernel
theorem d19_98 : decode prog_33_method_10_code 98 = .ok (.goto (-81), 3) := by decide +kernel
theorem d19_54 : decode prog_33_method_10_code 54 = .ok (.aload_n 0, 1) := by decide +kernel
theorem d19_55 : decode prog_33_method_10_code 55 = .ok (.getfield 11, 3) := by decide +kernel
theorem d19_58 : decode prog_33_method_10_code 58 = .ok (.iload_n 3, 1) := by decide +kernel
theorem d19_59 : decode prog_33_method_10_code 59 = .ok (.aload_n 0, 1) := by decide +kernel
theorem d19_60 : decode prog_33_method_10_code 60 = .ok (.getfield 11, 3) := by decide +kernel
theorem d19_63 : decode prog_33_method_10_code 63 = .ok (.iload 4, 2) := by decide +kernel
theorem d19_65 : decode prog_33_method_10_code 65 = .ok (.laload, 1) := by decide +kernel
theorem d19_66 : decode prog_33_method_10_code 66 = .ok (.lastore, 1) := by decide +kernel
theorem d19_67 : decode prog_33_method_10_code 67 = .ok (.aload_n 0, 1) := by decide +kernel
theorem d19_68 : decode prog_33_method_10_code 68 = .ok (.getfield 35, 3) := by decide +kernel
theorem d19_71 : decode prog_33_method_10_code 71 = .ok (.ifnull 16, 3) := by decide +kernel
theorem d19_87 : decode prog_33_method_10_code 87 = .ok (.iload 4, 2) := by decide +kernel
theorem d19_89 : decode prog_33_method_10_code 89 = .ok (.istore_n 3, 1) := by decide +kernel
set_option maxRecDepth 65536 in
set_option maxHeartbeats 40000000 in
theorem rm19_n (l : Launch) (Z : State) (a0 : Array Value) (hw : ∀ d ∈ tables_1, d.before a0 Z = true) (ws : List Jvm.Cond) (o0 : Addr) (u1 : Int32) (ka : Addr) (kf vf : Nat → Int64) (tk : Int32) (mm : Nat) (h0 : Heap) (n0 : Nat) (Z0 : n0 ≤ h0.size) (geo : n0 ≤ o0) (gek : n0 ≤ ka) (nok : o0 ≠ ka) (E0 : Exa Z h0 o0 "com/example/clockwrap/clockwrap/store/LongTable$Part") (Fk : Fld Z h0 o0 "com/example/clockwrap/clockwrap/store/LongTable$Part" "keys" "[J" (.ref ka)) (Fv : Fld Z h0 o0 "com/example/clockwrap/clockwrap/store/LongTable$Part" "values" "[J" .null) (Fs : Fld Z h0 o0 "com/example/clockwrap/clockwrap/store/LongTable$Part" "shift" "I" (.int (60 : Int32))) (Ft : Fld Z h0 o0 "com/example/clockwrap/clockwrap/store/LongTable$Part" "taken" "I" (.int tk)) (Va : Ara Z h0 ka .long 16 (fun i => .long (kf i))) (hP : PI hm kf vf tk mm) (hm10 : mm < 10) (hu0 : ¬ u1 < 0) (hu1 : u1.toNatClampNeg < 16) (hk : kf u1.toNatClampNeg ≠ 0) :
    MetFree l (⟨"com/example/clockwrap/clockwrap/store/LongTable$Part", "free", "(I)V"⟩ : MethodName) (head1 (Jvm.Cond.code (⟨"com/example/clockwrap/clockwrap/store/LongTable$Part", "free", "(I)V"⟩ : MethodName) prog_33_method_10_code 5 none :: ws) ({ frames := 1, cells := 0, slots := 0, locals := 15 } : Room)) (fun a U => a = #[(.ref o0), (.int u1)] ∧ Z.Warmed39 U.vm ∧ U.heap = h0) (fun _ _ _ _ _ => True) (fun _ U o U' => ∃ v L, o = .returned v ∧ (Q_rm19_n Z o0 u1 ka kf vf tk mm h0 n0) v U'.heap L ∧ FrameEnd U o U' L ({ frames := 1, cells := 0, slots := 0, locals := 15 } : Room).cells ({ frames := 1, cells := 0, slots := 0, locals := 15 } : Room).slots) := by
  refine MetFree.of_bodySF (plainFor_of_name pn_1) hisR ?_
  intro p e s m args below meth c s₁ Bd hml0 hP hK
  obtain ⟨rfl, hZ, hh⟩ := hP
  have hx := Bd.exec
  have hby := Bd.bytes
  have hml : c.maxLocals = 5 := hml0
  have hown : s.vm.findClass "com/example/clockwrap/clockwrap/store/LongTable$Part" = some m.cls := findClass_of_methodNamed Bd.named
  have hnm := (name_of_methodNamed Bd.named Bd.method).1
  have X0 : Stand p l e ({ frames := 1, cells := 0, slots := 0, locals := 15 } : Room) s m #[(.ref o0), (.int u1)] below meth c s₁ [] 0 0 := Stand.of_body Bd
  have e0 : s₁.heap = h0 := by rw [← hh, Bd.state]; rfl
  have N0 := Fr.nil n0
  show OFin p e below (ORet (Q_rm19_n Z o0 u1 ka kf vf tk mm h0 n0) s ({ frames := 1, cells := 0, slots := 0, locals := 15 } : Room).cells ({ frames := 1, cells := 0, slots := 0, locals := 15 } : Room).slots) (s₁.setTop (entryFrame m #[(.ref o0), (.int u1)] 5))
  refine OFin.go (fun t k => castTop (ef_rm19_n m o0 u1) k) ?_
  have K0 := Keep.refl h0 [o0, ka]
  obtain ⟨zz, hzz, hz0⟩ := hP.free (by omega)
  show OFin p e below (ORet (Q_rm19_n Z o0 u1 ka kf vf tk mm h0 n0) s ({ frames := 1, cells := 0, slots := 0, locals := 15 } : Room).cells ({ frames := 1, cells := 0, slots := 0, locals := 15 } : Room).slots) (s₁.setTop (mkF m 0 #[.val (.ref o0), .val (.int u1), .unset, .unset, .unset] []))
  have S1 : ∀ t, Steps p.tables e below (s₁.setTop (mkF m 1 #[.val (.ref o0), .val (.int u1), .unset, .unset, .unset] [(.ref o0)])) t → Steps p.tables e below (s₁.setTop (mkF m 0 #[.val (.ref o0), .val (.int u1), .unset, .unset, .unset] [])) t := by
    intro t k
    show Steps p.tables e below (s₁.setTop (mkF m 0 #[.val (.ref o0), .val (.int u1), .unset, .unset, .unset] [])) t
    refine XS.aloadN X0.here hx rfl (hb hby d19_0) rfl rfl ?_
    exact k
  refine OFin.go S1 ?_
  obtain ⟨T2, X2, e2, st2⟩ := getF X0 hx hZ hown (host := "") (Or.inl (hw _ (List.mem_of_getElem? (i := 20) rfl))) Via.refl e0 Fk (g := (mkF m 1 #[.val (.ref o0), .val (.int u1), .unset, .unset, .unset] [(.ref o0)])) rfl rfl (hb hby d19_1)
  refine OFin.go st2 ?_
  show OFin p e below _ (T2.setTop (mkF m 4 #[.val (.ref o0), .val (.int u1), .unset, .unset, .unset] [(.ref ka)]))
  have S3 : ∀ t, Steps p.tables e below (T2.setTop (mkF m 17 #[.val (.ref o0), .val (.int u1), .val (.int (15 : Int32)), .val (.int u1), .val (.int ((u1 + (1 : Int32)) &&& (15 : Int32)))] [])) t → Steps p.tables e below (T2.setTop (mkF m 4 #[.val (.ref o0), .val (.int u1), .unset, .unset, .unset] [(.ref ka)])) t := by
    intro t k
    show Steps p.tables e below (T2.setTop (mkF m 4 #[.val (.ref o0), .val (.int u1), .unset, .unset, .unset] [(.ref ka)])) t
    refine alen X2 hx hZ e2 Va (z := (16 : Int32)) rfl (g := (mkF m 4 #[.val (.ref o0), .val (.int u1), .unset, .unset, .unset] [(.ref ka)])) rfl rfl (hb hby d19_4) ?_
    show Steps p.tables e below (T2.setTop (mkF m 5 #[.val (.ref o0), .val (.int u1), .unset, .unset, .unset] [(.int (16 : Int32))])) t
    refine XS.iconst X2.here hx rfl (hb hby d19_5) ?_
    show Steps p.tables e below (T2.setTop (mkF m 6 #[.val (.ref o0), .val (.int u1), .unset, .unset, .unset] [(.int (1 : Int32)), (.int (16 : Int32))])) t
    refine XS.isub X2.here hx rfl (hb hby d19_6) rfl ?_
    show Steps p.tables e below (T2.setTop (mkF m 7 #[.val (.ref o0), .val (.int u1), .unset, .unset, .unset] [(.int (15 : Int32))])) t
    refine XS.istoreN X2.here hx rfl (hb hby d19_7) rfl (l' := #[.val (.ref o0), .val (.int u1), .val (.int (15 : Int32)), .unset, .unset]) rfl ?_
    show Steps p.tables e below (T2.setTop (mkF m 8 #[.val (.ref o0), .val (.int u1), .val (.int (15 : Int32)), .unset, .unset] [])) t
    refine XS.iloadN X2.here hx rfl (hb hby d19_8) rfl ?_
    show Steps p.tables e below (T2.setTop (mkF m 9 #[.val (.ref o0), .val (.int u1), .val (.int (15 : Int32)), .unset, .unset] [(.int u1)])) t
    refine XS.istoreN X2.here hx rfl (hb hby d19_9) rfl (l' := #[.val (.ref o0), .val (.int u1), .val (.int (15 : Int32)), .val (.int u1), .unset]) rfl ?_
    show Steps p.tables e below (T2.setTop (mkF m 10 #[.val (.ref o0), .val (.int u1), .val (.int (15 : Int32)), .val (.int u1), .unset] [])) t
    refine XS.iloadN X2.here hx rfl (hb hby d19_10) rfl ?_
    show Steps p.tables e below (T2.setTop (mkF m 11 #[.val (.ref o0), .val (.int u1), .val (.int (15 : Int32)), .val (.int u1), .unset] [(.int u1)])) t
    refine XS.iconst X2.here hx rfl (hb hby d19_11) ?_
    show Steps p.tables e below (T2.setTop (mkF m 12 #[.val (.ref o0), .val (.int u1), .val (.int (15 : Int32)), .val (.int u1), .unset] [(.int (1 : Int32)), (.int u1)])) t
    refine XS.iadd X2.here hx rfl (hb hby d19_12) rfl ?_
    show Steps p.tables e below (T2.setTop (mkF m 13 #[.val (.ref o0), .val (.int u1), .val (.int (15 : Int32)), .val (.int u1), .unset] [(.int (u1 + (1 : Int32)))])) t
    refine XS.iloadN X2.here hx rfl (hb hby d19_13) rfl ?_
    show Steps p.tables e below (T2.setTop (mkF m 14 #[.val (.ref o0), .val (.int u1), .val (.int (15 : Int32)), .val (.int u1), .unset] [(.int (15 : Int32)), (.int (u1 + (1 : Int32)))])) t
    refine XS.iand X2.here hx rfl (hb hby d19_14) rfl ?_
    show Steps p.tables e below (T2.setTop (mkF m 15 #[.val (.ref o0), .val (.int u1), .val (.int (15 : Int32)), .val (.int u1), .unset] [(.int ((u1 + (1 : Int32)) &&& (15 : Int32)))])) t
    refine XS.istore X2.here hx rfl (hb hby d19_15) rfl (l' := #[.val (.ref o0), .val (.int u1), .val (.int (15 : Int32)), .val (.int u1), .val (.int ((u1 + (1 : Int32)) &&& (15 : Int32)))]) rfl ?_
    exact k
  refine OFin.go S3 ?_
  have LOOP4 : ∀ (k : Nat) (Tk : State) (lo_ : List Loc) (ce_ sl_ : Nat) (Xk : Stand p l e ({ frames := 1, cells := 0, slots := 0, locals := 15 } : Room) s m #[(.ref o0), (.int u1)] below meth c Tk lo_ ce_ sl_) (Hk : Heap) (ek : Tk.heap = Hk) (Nk : Fr n0 lo_) (hce_ : ce_ ≤ ({ frames := 1, cells := 0, slots := 0, locals := 15 } : Room).cells) (hsl_ : sl_ ≤ ({ frames := 1, cells := 0, slots := 0, locals := 15 } : Room).slots) (Zk : n0 ≤ Hk.size) (Kk : Keep h0 Hk [o0, ka]) (gp : Int32) (nx : Int32) (kg vg : Nat → Int64) (ii : Nat) (Ek : Exa Z Hk o0 "com/example/clockwrap/clockwrap/store/LongTable$Part") (Fkk : Fld Z Hk o0 "com/example/clockwrap/clockwrap/store/LongTable$Part" "keys" "[J" (.ref ka)) (Fvk : Fld Z Hk o0 "com/example/clockwrap/clockwrap/store/LongTable$Part" "values" "[J" .null) (Fsk : Fld Z Hk o0 "com/example/clockwrap/clockwrap/store/LongTable$Part" "shift" "I" (.int (60 : Int32))) (Ftk : Fld Z Hk o0 "com/example/clockwrap/clockwrap/store/LongTable$Part" "taken" "I" (.int tk)) (Vak : Ara Z Hk ka .long 16 (fun i => .long (kg i))), (¬ gp < 0 ∧ ¬ nx < 0 ∧ nx.toNatClampNeg = (gp.toNatClampNeg + ii) % 16 ∧ ii + k < 16 ∧ (nx.toNatClampNeg + k) % 16 = zz ∧ Gap hm kg gp.toNatClampNeg ii ∧ (∀ k v, Oth kg vg gp.toNatClampNeg k v ↔ Oth kf vf u1.toNatClampNeg k v) ∧ (∀ u, u < 16 → kg u ≠ 0 → kf u ≠ 0) ∧ (∀ u, u < 16 → u ≠ gp.toNatClampNeg → kg u = 0 → vg u = 0) ∧ ((∀ i, vf i = 0) → ∀ i, vg i = 0)) → OFin p e below (ORet (Q_rm19_n Z o0 u1 ka kf vf tk mm h0 n0) s ({ frames := 1, cells := 0, slots := 0, locals := 15 } : Room).cells ({ frames := 1, cells := 0, slots := 0, locals := 15 } : Room).slots) (Tk.setTop (mkF m 17 #[.val (.ref o0), .val (.int u1), .val (.int (15 : Int32)), .val (.int gp), .val (.int nx)] [])) := by
    intro k
    induction k with
    | zero =>
      intro Tk lo_ ce_ sl_ Xk Hk ek Nk hce_ hsl_ Zk Kk gp nx kg vg ii Ek Fkk Fvk Fsk Ftk Vak hinv
      obtain ⟨hg0, hn0, hnx, hii, hzk, hG, hO, hfw, hvz, hnv⟩ := hinv
      have hgl := hG.1
      have hnl : nx.toNatClampNeg < 16 := by omega
      have S5 : ∀ t, Steps p.tables e below (Tk.setTop (mkF m 18 #[.val (.ref o0), .val (.int u1), .val (.int (15 : Int32)), .val (.int gp), .val (.int nx)] [(.ref o0)])) t → Steps p.tables e below (Tk.setTop (mkF m 17 #[.val (.ref o0), .val (.int u1), .val (.int (15 : Int32)), .val (.int gp), .val (.int nx)] [])) t := by
        intro t k
        show Steps p.tables e below (Tk.setTop (mkF m 17 #[.val (.ref o0), .val (.int u1), .val (.int (15 : Int32)), .val (.int gp), .val (.int nx)] [])) t
        refine XS.aloadN Xk.here hx rfl (hb hby d19_17) rfl rfl ?_
        exact k
      refine OFin.go S5 ?_
      obtain ⟨T6, X6, e6, st6⟩ := getF Xk hx hZ hown (host := "") (Or.inl (hw _ (List.mem_of_getElem? (i := 20) rfl))) Via.refl ek Fkk (g := (mkF m 18 #[.val (.ref o0), .val (.int u1), .val (.int (15 : Int32)), .val (.int gp), .val (.int nx)] [(.ref o0)])) rfl rfl (hb hby d19_18)
      refine OFin.go st6 ?_
      show OFin p e below _ (T6.setTop (mkF m 21 #[.val (.ref o0), .val (.int u1), .val (.int (15 : Int32)), .val (.int gp), .val (.int nx)] [(.ref ka)]))
      have S7 : ∀ t, Steps p.tables e below (T6.setTop (mkF m 26 #[.val (.ref o0), .val (.int u1), .val (.int (15 : Int32)), .val (.int gp), .val (.int nx)] [(.int (lcmpW (kg nx.toNatClampNeg) (0 : Int64)))])) t → Steps p.tables e below (T6.setTop (mkF m 21 #[.val (.ref o0), .val (.int u1), .val (.int (15 : Int32)), .val (.int gp), .val (.int nx)] [(.ref ka)])) t := by
        intro t k
        show Steps p.tables e below (T6.setTop (mkF m 21 #[.val (.ref o0), .val (.int u1), .val (.int (15 : Int32)), .val (.int gp), .val (.int nx)] [(.ref ka)])) t
        refine XS.iload X6.here hx rfl (hb hby d19_21) rfl ?_
        show Steps p.tables e below (T6.setTop (mkF m 23 #[.val (.ref o0), .val (.int u1), .val (.int (15 : Int32)), .val (.int gp), .val (.int nx)] [(.int nx), (.ref ka)])) t
        refine rdJ X6 hx hZ e6 Vak (i := nx.toNatClampNeg) hn0 rfl hnl (x := (.long (kg nx.toNatClampNeg))) rfl (g := (mkF m 23 #[.val (.ref o0), .val (.int u1), .val (.int (15 : Int32)), .val (.int gp), .val (.int nx)] [(.int nx), (.ref ka)])) rfl rfl (hb hby d19_23) ?_
        show Steps p.tables e below (T6.setTop (mkF m 24 #[.val (.ref o0), .val (.int u1), .val (.int (15 : Int32)), .val (.int gp), .val (.int nx)] [(.long (kg nx.toNatClampNeg))])) t
        refine XS.lconst X6.here hx rfl (hb hby d19_24) ?_
        show Steps p.tables e below (T6.setTop (mkF m 25 #[.val (.ref o0), .val (.int u1), .val (.int (15 : Int32)), .val (.int gp), .val (.int nx)] [(.long (0 : Int64)), (.long (kg nx.toNatClampNeg))])) t
        refine XS.lcmp X6.here hx rfl (hb hby d19_25) rfl ?_
        exact k
      refine OFin.go S7 ?_
      have S8 : ∀ t, Steps p.tables e below (T6.setTop (mkF m 101 #[.val (.ref o0), .val (.int u1), .val (.int (15 : Int32)), .val (.int gp), .val (.int nx)] [])) t → Steps p.tables e below (T6.setTop (mkF m 26 #[.val (.ref o0), .val (.int u1), .val (.int (15 : Int32)), .val (.int gp), .val (.int nx)] [(.int (lcmpW (kg nx.toNatClampNeg) (0 : Int64)))])) t := by
        intro t k
        show Steps p.tables e below (T6.setTop (mkF m 26 #[.val (.ref o0), .val (.int u1), .val (.int (15 : Int32)), .val (.int gp), .val (.int nx)] [(.int (lcmpW (kg nx.toNatClampNeg) (0 : Int64)))])) t
        refine XS.ifYes X6.here hx rfl (pc0 := 26) (pc' := 101) rfl (hb hby d19_26) rfl (lc_eq_t (by rw [show nx.toNatClampNeg = zz by omega]; exact Classical.byContradiction fun q => hfw zz hzz q hz0)) (by decide) (by decide) ?_
        exact k
      refine OFin.go S8 ?_
      have S9 : ∀ t, Steps p.tables e below (T6.setTop (mkF m 102 #[.val (.ref o0), .val (.int u1), .val (.int (15 : Int32)), .val (.int gp), .val (.int nx)] [(.ref o0)])) t → Steps p.tables e below (T6.setTop (mkF m 101 #[.val (.ref o0), .val (.int u1), .val (.int (15 : Int32)), .val (.int gp), .val (.int nx)] [])) t := by
        intro t k
        show Steps p.tables e below (T6.setTop (mkF m 101 #[.val (.ref o0), .val (.int u1), .val (.int (15 : Int32)), .val (.int gp), .val (.int nx)] [])) t
        refine XS.aloadN X6.here hx rfl (hb hby d19_101) rfl rfl ?_
        exact k
      refine OFin.go S9 ?_
      obtain ⟨T10, X10, e10, st10⟩ := getF X6 hx hZ hown (host := "") (Or.inl (hw _ (List.mem_of_getElem? (i := 20) rfl))) Via.refl e6 Fkk (g := (mkF m 102 #[.val (.ref o0), .val (.int u1), .val (.int (15 : Int32)), .val (.int gp), .val (.int nx)] [(.ref o0)])) rfl rfl (hb hby d19_102)
      refine OFin.go st10 ?_
      show OFin p e below _ (T10.setTop (mkF m 105 #[.val (.ref o0), .val (.int u1), .val (.int (15 : Int32)), .val (.int gp), .val (.int nx)] [(.ref ka)]))
      have S11 : ∀ t, Steps p.tables e below (T10.setTop (mkF m 107 #[.val (.ref o0), .val (.int u1), .val (.int (15 : Int32)), .val (.int gp), .val (.int nx)] [(.long (0 : Int64)), (.int gp), (.ref ka)])) t → Steps p.tables e below (T10.setTop (mkF m 105 #[.val (.ref o0), .val (.int u1), .val (.int (15 : Int32)), .val (.int gp), .val (.int nx)] [(.ref ka)])) t := by
        intro t k
        show Steps p.tables e below (T10.setTop (mkF m 105 #[.val (.ref o0), .val (.int u1), .val (.int (15 : Int32)), .val (.int gp), .val (.int nx)] [(.ref ka)])) t
        refine XS.iloadN X10.here hx rfl (hb hby d19_105) rfl ?_
        show Steps p.tables e below (T10.setTop (mkF m 106 #[.val (.ref o0), .val (.int u1), .val (.int (15 : Int32)), .val (.int gp), .val (.int nx)] [(.int gp), (.ref ka)])) t
        refine XS.lconst X10.here hx rfl (hb hby d19_106) ?_
        exact k
      refine OFin.go S11 ?_
      obtain ⟨T12, h12, X12, e12, W12, st12⟩ := wrJ X10 hx hZ e10 Vak (i := gp.toNatClampNeg) hg0 rfl hgl (g := (mkF m 107 #[.val (.ref o0), .val (.int u1), .val (.int (15 : Int32)), .val (.int gp), .val (.int nx)] [(.long (0 : Int64)), (.int gp), (.ref ka)])) rfl rfl (hb hby d19_107)
      have V12 := Vak.set W12
      have N12 := Fr.snoc X12 Nk gek
      have Z12 : n0 ≤ h12.size := Nat.le_trans Zk (wr_le W12)
      have K12 := Keep.wr Kk W12 (Or.inl (List.mem_of_getElem? (i := 1) rfl))
      refine OFin.go st12 ?_
      show OFin p e below _ (T12.setTop (mkF m 108 #[.val (.ref o0), .val (.int u1), .val (.int (15 : Int32)), .val (.int gp), .val (.int nx)] []))
      have S13 : ∀ t, Steps p.tables e below (T12.setTop (mkF m 109 #[.val (.ref o0), .val (.int u1), .val (.int (15 : Int32)), .val (.int gp), .val (.int nx)] [(.ref o0)])) t → Steps p.tables e below (T12.setTop (mkF m 108 #[.val (.ref o0), .val (.int u1), .val (.int (15 : Int32)), .val (.int gp), .val (.int nx)] [])) t := by
        intro t k
        show Steps p.tables e below (T12.setTop (mkF m 108 #[.val (.ref o0), .val (.int u1), .val (.int (15 : Int32)), .val (.int gp), .val (.int nx)] [])) t
        refine XS.aloadN X12.here hx rfl (hb hby d19_108) rfl rfl ?_
        exact k
      refine OFin.go S13 ?_
      have F14 := Fvk.other W12 (Or.inl nok)
      obtain ⟨T15, X15, e15, st15⟩ := getF X12 hx hZ hown (host := "") (Or.inl (hw _ (List.mem_of_getElem? (i := 76) rfl))) Via.refl e12 F14 (g := (mkF m 109 #[.val (.ref o0), .val (.int u1), .val (.int (15 : Int32)), .val (.int gp), .val (.int nx)] [(.ref o0)])) rfl rfl (hb hby d19_109)
      refine OFin.go st15 ?_
      show OFin p e below _ (T15.setTop (mkF m 112 #[.val (.ref o0), .val (.int u1), .val (.int (15 : Int32)), .val (.int gp), .val (.int nx)] [.null]))
      refine OFin.go (fun t k => ?_ : ∀ t, Steps p.tables e below (T15.setTop (mkF m 122 #[.val (.ref o0), .val (.int u1), .val (.int (15 : Int32)), .val (.int gp), .val (.int nx)] [])) t → Steps p.tables e below (T15.setTop (mkF m 112 #[.val (.ref o0), .val (.int u1), .val (.int (15 : Int32)), .val (.int gp), .val (.int nx)] [.null])) t) ?_
      · show Steps p.tables e below (T15.setTop (mkF m 112 #[.val (.ref o0), .val (.int u1), .val (.int (15 : Int32)), .val (.int gp), .val (.int nx)] [.null])) t
        refine XS.ifnullYes X15.here hx rfl (pc0 := 112) (pc' := 122) rfl (hb hby d19_112) rfl (by decide) (by decide) ?_
        exact k
      have F16 := Ek.wr W12
      have F17 := Fkk.other W12 (Or.inl nok)
      have F18 := Fsk.other W12 (Or.inl nok)
      have F19 := Ftk.other W12 (Or.inl nok)
      exact finV X15 hx Bd.notSynchronized Bd.returns (hb hby d19_122) hce_ hsl_ (by rw [e15]; exact ⟨upd kg gp.toNatClampNeg 0, upd vg gp.toNatClampNeg 0, rfl, N12, K12, (F16), (F17), (F14), (F18), (F19), ((V12).congr (fun i _ => own_updl _ _ _ i)), fun tk' q => (own_freed hm_lt hP hk hu1 rfl hG (by omega) (by rw [← hnx]; exact (by rw [show nx.toNatClampNeg = zz by omega]; exact Classical.byContradiction fun q => hfw zz hzz q hz0)) hO hfw hvz q).1, (own_freed hm_lt hP hk hu1 rfl hG (by omega) (by rw [← hnx]; exact (by rw [show nx.toNatClampNeg = zz by omega]; exact Classical.byContradiction fun q => hfw zz hzz q hz0)) hO hfw hvz (own_t hP hm10).2.2).2, fun q => own_upd0 (hnv q) rfl⟩)
    | succ k ih =>
      intro Tk lo_ ce_ sl_ Xk Hk ek Nk hce_ hsl_ Zk Kk gp nx kg vg ii Ek Fkk Fvk Fsk Ftk Vak hinv
      obtain ⟨hg0, hn0, hnx, hii, hzk, hG, hO, hfw, hvz, hnv⟩ := hinv
      have hgl := hG.1
      have hnl : nx.toNatClampNeg < 16 := by omega
      have S20 : ∀ t, Steps p.tables e below (Tk.setTop (mkF m 18 #[.val (.ref o0), .val (.int u1), .val (.int (15 : Int32)), .val (.int gp), .val (.int nx)] [(.ref o0)])) t → Steps p.tables e below (Tk.setTop (mkF m 17 #[.val (.ref o0), .val (.int u1), .val (.int (15 : Int32)), .val (.int gp), .val (.int nx)] [])) t := by
        intro t k
        show Steps p.tables e below (Tk.setTop (mkF m 17 #[.val (.ref o0), .val (.int u1), .val (.int (15 : Int32)), .val (.int gp), .val (.int nx)] [])) t
        refine XS.aloadN Xk.here hx rfl (hb hby d19_17) rfl rfl ?_
        exact k
      refine OFin.go S20 ?_
      obtain ⟨T21, X21, e21, st21⟩ := getF Xk hx hZ hown (host := "") (Or.inl (hw _ (List.mem_of_getElem? (i := 20) rfl))) Via.refl ek Fkk (g := (mkF m 18 #[.val (.ref o0), .val (.int u1), .val (.int (15 : Int32)), .val (.int gp), .val (.int nx)] [(.ref o0)])) rfl rfl (hb hby d19_18)
      refine OFin.go st21 ?_
      show OFin p e below _ (T21.setTop (mkF m 21 #[.val (.ref o0), .val (.int u1), .val (.int (15 : Int32)), .val (.int gp), .val (.int nx)] [(.ref ka)]))
      have S22 : ∀ t, Steps p.tables e below (T21.setTop (mkF m 26 #[.val (.ref o0), .val (.int u1), .val (.int (15 : Int32)), .val (.int gp), .val (.int nx)] [(.int (lcmpW (kg nx.toNatClampNeg) (0 : Int64)))])) t → Steps p.tables e below (T21.setTop (mkF m 21 #[.val (.ref o0), .val (.int u1), .val (.int (15 : Int32)), .val (.int gp), .val (.int nx)] [(.ref ka)])) t := by
        intro t k
        show Steps p.tables e below (T21.setTop (mkF m 21 #[.val (.ref o0), .val (.int u1), .val (.int (15 : Int32)), .val (.int gp), .val (.int nx)] [(.ref ka)])) t
        refine XS.iload X21.here hx rfl (hb hby d19_21) rfl ?_
        show Steps p.tables e below (T21.setTop (mkF m 23 #[.val (.ref o0), .val (.int u1), .val (.int (15 : Int32)), .val (.int gp), .val (.int nx)] [(.int nx), (.ref ka)])) t
        refine rdJ X21 hx hZ e21 Vak (i := nx.toNatClampNeg) hn0 rfl hnl (x := (.long (kg nx.toNatClampNeg))) rfl (g := (mkF m 23 #[.val (.ref o0), .val (.int u1), .val (.int (15 : Int32)), .val (.int gp), .val (.int nx)] [(.int nx), (.ref ka)])) rfl rfl (hb hby d19_23) ?_
        show Steps p.tables e below (T21.setTop (mkF m 24 #[.val (.ref o0), .val (.int u1), .val (.int (15 : Int32)), .val (.int gp), .val (.int nx)] [(.long (kg nx.toNatClampNeg))])) t
        refine XS.lconst X21.here hx rfl (hb hby d19_24) ?_
        show Steps p.tables e below (T21.setTop (mkF m 25 #[.val (.ref o0), .val (.int u1), .val (.int (15 : Int32)), .val (.int gp), .val (.int nx)] [(.long (0 : Int64)), (.long (kg nx.toNatClampNeg))])) t
        refine XS.lcmp X21.here hx rfl (hb hby d19_25) rfl ?_
        exact k
      refine OFin.go S22 ?_
      by_cases h23 : ((kg nx.toNatClampNeg) = (0 : Int64))
      · -- pc 26: ((kg nx.toNatClampNeg) = (0 : Int64))
        have S24 : ∀ t, Steps p.tables e below (T21.setTop (mkF m 101 #[.val (.ref o0), .val (.int u1), .val (.int (15 : Int32)), .val (.int gp), .val (.int nx)] [])) t → Steps p.tables e below (T21.setTop (mkF m 26 #[.val (.ref o0), .val (.int u1), .val (.int (15 : Int32)), .val (.int gp), .val (.int nx)] [(.int (lcmpW (kg nx.toNatClampNeg) (0 : Int64)))])) t := by
          intro t k
          show Steps p.tables e below (T21.setTop (mkF m 26 #[.val (.ref o0), .val (.int u1), .val (.int (15 : Int32)), .val (.int gp), .val (.int nx)] [(.int (lcmpW (kg nx.toNatClampNeg) (0 : Int64)))])) t
          refine XS.ifYes X21.here hx rfl (pc0 := 26) (pc' := 101) rfl (hb hby d19_26) rfl (lc_eq_t h23) (by decide) (by decide) ?_
          exact k
        refine OFin.go S24 ?_
        have S25 : ∀ t, Steps p.tables e below (T21.setTop (mkF m 102 #[.val (.ref o0), .val (.int u1), .val (.int (15 : Int32)), .val (.int gp), .val (.int nx)] [(.ref o0)])) t → Steps p.tables e below (T21.setTop (mkF m 101 #[.val (.ref o0), .val (.int u1), .val (.int (15 : Int32)), .val (.int gp), .val (.int nx)] [])) t := by
          intro t k
          show Steps p.tables e below (T21.setTop (mkF m 101 #[.val (.ref o0), .val (.int u1), .val (.int (15 : Int32)), .val (.int gp), .val (.int nx)] [])) t
          refine XS.aloadN X21.here hx rfl (hb hby d19_101) rfl rfl ?_
          exact k
        refine OFin.go S25 ?_
        obtain ⟨T26, X26, e26, st26⟩ := getF X21 hx hZ hown (host := "") (Or.inl (hw _ (List.mem_of_getElem? (i := 20) rfl))) Via.refl e21 Fkk (g := (mkF m 102 #[.val (.ref o0), .val (.int u1), .val (.int (15 : Int32)), .val (.int gp), .val (.int nx)] [(.ref o0)])) rfl rfl (hb hby d19_102)
        refine OFin.go st26 ?_
        show OFin p e below _ (T26.setTop (mkF m 105 #[.val (.ref o0), .val (.int u1), .val (.int (15 : Int32)), .val (.int gp), .val (.int nx)] [(.ref ka)]))
        have S27 : ∀ t, Steps p.tables e below (T26.setTop (mkF m 107 #[.val (.ref o0), .val (.int u1), .val (.int (15 : Int32)), .val (.int gp), .val (.int nx)] [(.long (0 : Int64)), (.int gp), (.ref ka)])) t → Steps p.tables e below (T26.setTop (mkF m 105 #[.val (.ref o0), .val (.int u1), .val (.int (15 : Int32)), .val (.int gp), .val (.int nx)] [(.ref ka)])) t := by
          intro t k
          show Steps p.tables e below (T26.setTop (mkF m 105 #[.val (.ref o0), .val (.int u1), .val (.int (15 : Int32)), .val (.int gp), .val (.int nx)] [(.ref ka)])) t
          refine XS.iloadN X26.here hx rfl (hb hby d19_105) rfl ?_
          show Steps p.tables e below (T26.setTop (mkF m 106 #[.val (.ref o0), .val (.int u1), .val (.int (15 : Int32)), .val (.int gp), .val (.int nx)] [(.int gp), (.ref ka)])) t
          refine XS.lconst X26.here hx rfl (hb hby d19_106) ?_
          exact k
        refine OFin.go S27 ?_
        obtain ⟨T28, h28, X28, e28, W28, st28⟩ := wrJ X26 hx hZ e26 Vak (i := gp.toNatClampNeg) hg0 rfl hgl (g := (mkF m 107 #[.val (.ref o0), .val (.int u1), .val (.int (15 : Int32)), .val (.int gp), .val (.int nx)] [(.long (0 : Int64)), (.int gp), (.ref ka)])) rfl rfl (hb hby d19_107)
        have V28 := Vak.set W28
        have N28 := Fr.snoc X28 Nk gek
        have Z28 : n0 ≤ h28.size := Nat.le_trans Zk (wr_le W28)
        have K28 := Keep.wr Kk W28 (Or.inl (List.mem_of_getElem? (i := 1) rfl))
        refine OFin.go st28 ?_
        show OFin p e below _ (T28.setTop (mkF m 108 #[.val (.ref o0), .val (.int u1), .val (.int (15 : Int32)), .val (.int gp), .val (.int nx)] []))
        have S29 : ∀ t, Steps p.tables e below (T28.setTop (mkF m 109 #[.val (.ref o0), .val (.int u1), .val (.int (15 : Int32)), .val (.int gp), .val (.int nx)] [(.ref o0)])) t → Steps p.tables e below (T28.setTop (mkF m 108 #[.val (.ref o0), .val (.int u1), .val (.int (15 : Int32)), .val (.int gp), .val (.int nx)] [])) t := by
          intro t k
          show Steps p.tables e below (T28.setTop (mkF m 108 #[.val (.ref o0), .val (.int u1), .val (.int (15 : Int32)), .val (.int gp), .val (.int nx)] [])) t
          refine XS.aloadN X28.here hx rfl (hb hby d19_108) rfl rfl ?_
          exact k
        refine OFin.go S29 ?_
        have F30 := Fvk.other W28 (Or.inl nok)
        obtain ⟨T31, X31, e31, st31⟩ := getF X28 hx hZ hown (host := "") (Or.inl (hw _ (List.mem_of_getElem? (i := 76) rfl))) Via.refl e28 F30 (g := (mkF m 109 #[.val (.ref o0), .val (.int u1), .val (.int (15 : Int32)), .val (.int gp), .val (.int nx)] [(.ref o0)])) rfl rfl (hb hby d19_109)
        refine OFin.go st31 ?_
        show OFin p e below _ (T31.setTop (mkF m 112 #[.val (.ref o0), .val (.int u1), .val (.int (15 : Int32)), .val (.int gp), .val (.int nx)] [.null]))
        refine OFin.go (fun t k => ?_ : ∀ t, Steps p.tables e below (T31.setTop (mkF m 122 #[.val (.ref o0), .val (.int u1), .val (.int (15 : Int32)), .val (.int gp), .val (.int nx)] [])) t → Steps p.tables e below (T31.setTop (mkF m 112 #[.val (.ref o0), .val (.int u1), .val (.int (15 : Int32)), .val (.int gp), .val (.int nx)] [.null])) t) ?_
        · show Steps p.tables e below (T31.setTop (mkF m 112 #[.val (.ref o0), .val (.int u1), .val (.int (15 : Int32)), .val (.int gp), .val (.int nx)] [.null])) t
          refine XS.ifnullYes X31.here hx rfl (pc0 := 112) (pc' := 122) rfl (hb hby d19_112) rfl (by decide) (by decide) ?_
          exact k
        have F32 := Ek.wr W28
        have F33 := Fkk.other W28 (Or.inl nok)
        have F34 := Fsk.other W28 (Or.inl nok)
        have F35 := Ftk.other W28 (Or.inl nok)
        exact finV X31 hx Bd.notSynchronized Bd.returns (hb hby d19_122) hce_ hsl_ (by rw [e31]; exact ⟨upd kg gp.toNatClampNeg 0, upd vg gp.toNatClampNeg 0, rfl, N28, K28, (F32), (F33), (F30), (F34), (F35), ((V28).congr (fun i _ => own_updl _ _ _ i)), fun tk' q => (own_freed hm_lt hP hk hu1 rfl hG (by omega) (by rw [← hnx]; exact h23) hO hfw hvz q).1, (own_freed hm_lt hP hk hu1 rfl hG (by omega) (by rw [← hnx]; exact h23) hO hfw hvz (own_t hP hm10).2.2).2, fun q => own_upd0 (hnv q) rfl⟩)
      · -- pc 26: not ((kg nx.toNatClampNeg) = (0 : Int64))
        have S36 : ∀ t, Steps p.tables e below (T21.setTop (mkF m 29 #[.val (.ref o0), .val (.int u1), .val (.int (15 : Int32)), .val (.int gp), .val (.int nx)] [])) t → Steps p.tables e below (T21.setTop (mkF m 26 #[.val (.ref o0), .val (.int u1), .val (.int (15 : Int32)), .val (.int gp), .val (.int nx)] [(.int (lcmpW (kg nx.toNatClampNeg) (0 : Int64)))])) t := by
          intro t k
          show Steps p.tables e below (T21.setTop (mkF m 26 #[.val (.ref o0), .val (.int u1), .val (.int (15 : Int32)), .val (.int gp), .val (.int nx)] [(.int (lcmpW (kg nx.toNatClampNeg) (0 : Int64)))])) t
          refine XS.ifNo X21.here hx rfl (hb hby d19_26) rfl (lc_eq_f h23) ?_
          exact k
        refine OFin.go S36 ?_
        have S37 : ∀ t, Steps p.tables e below (T21.setTop (mkF m 33 #[.val (.ref o0), .val (.int u1), .val (.int (15 : Int32)), .val (.int gp), .val (.int nx)] [(.ref o0), (.ref o0), (.int nx)])) t → Steps p.tables e below (T21.setTop (mkF m 29 #[.val (.ref o0), .val (.int u1), .val (.int (15 : Int32)), .val (.int gp), .val (.int nx)] [])) t := by
          intro t k
          show Steps p.tables e below (T21.setTop (mkF m 29 #[.val (.ref o0), .val (.int u1), .val (.int (15 : Int32)), .val (.int gp), .val (.int nx)] [])) t
          refine XS.iload X21.here hx rfl (hb hby d19_29) rfl ?_
          show Steps p.tables e below (T21.setTop (mkF m 31 #[.val (.ref o0), .val (.int u1), .val (.int (15 : Int32)), .val (.int gp), .val (.int nx)] [(.int nx)])) t
          refine XS.aloadN X21.here hx rfl (hb hby d19_31) rfl rfl ?_
          show Steps p.tables e below (T21.setTop (mkF m 32 #[.val (.ref o0), .val (.int u1), .val (.int (15 : Int32)), .val (.int gp), .val (.int nx)] [(.ref o0), (.int nx)])) t
          refine XS.aloadN X21.here hx rfl (hb hby d19_32) rfl rfl ?_
          exact k
        refine OFin.go S37 ?_
        obtain ⟨T38, X38, e38, st38⟩ := getF X21 hx hZ hown (host := "") (Or.inl (hw _ (List.mem_of_getElem? (i := 20) rfl))) Via.refl e21 Fkk (g := (mkF m 33 #[.val (.ref o0), .val (.int u1), .val (.int (15 : Int32)), .val (.int gp), .val (.int nx)] [(.ref o0), (.ref o0), (.int nx)])) rfl rfl (hb hby d19_33)
        refine OFin.go st38 ?_
        show OFin p e below _ (T38.setTop (mkF m 36 #[.val (.ref o0), .val (.int u1), .val (.int (15 : Int32)), .val (.int gp), .val (.int nx)] [(.ref ka), (.ref o0), (.int nx)]))
        have S39 : ∀ t, Steps p.tables e below (T38.setTop (mkF m 39 #[.val (.ref o0), .val (.int u1), .val (.int (15 : Int32)), .val (.int gp), .val (.int nx)] [(.long (kg nx.toNatClampNeg)), (.ref o0), (.int nx)])) t → Steps p.tables e below (T38.setTop (mkF m 36 #[.val (.ref o0), .val (.int u1), .val (.int (15 : Int32)), .val (.int gp), .val (.int nx)] [(.ref ka), (.ref o0), (.int nx)])) t := by
          intro t k
          show Steps p.tables e below (T38.setTop (mkF m 36 #[.val (.ref o0), .val (.int u1), .val (.int (15 : Int32)), .val (.int gp), .val (.int nx)] [(.ref ka), (.ref o0), (.int nx)])) t
          refine XS.iload X38.here hx rfl (hb hby d19_36) rfl ?_
          show Steps p.tables e below (T38.setTop (mkF m 38 #[.val (.ref o0), .val (.int u1), .val (.int (15 : Int32)), .val (.int gp), .val (.int nx)] [(.int nx), (.ref ka), (.ref o0), (.int nx)])) t
          refine rdJ X38 hx hZ e38 Vak (i := nx.toNatClampNeg) hn0 rfl hnl (x := (.long (kg nx.toNatClampNeg))) rfl (g := (mkF m 38 #[.val (.ref o0), .val (.int u1), .val (.int (15 : Int32)), .val (.int gp), .val (.int nx)] [(.int nx), (.ref ka), (.ref o0), (.int nx)])) rfl rfl (hb hby d19_38) ?_
          exact k
        refine OFin.go S39 ?_
        obtain ⟨_, T40, Lc40, X40, hQ40, st40⟩ := privQ X38 hx hZ (y := (⟨"com/example/clockwrap/clockwrap/store/LongTable$Part", "home", "(J)I"⟩ : MethodName)) hown (hw _ (List.mem_of_getElem? (i := 57) rfl)) (hw _ (List.mem_of_getElem? (i := 58) rfl)) (hw _ (List.mem_of_getElem? (i := 14) rfl)) (hw _ (List.mem_of_getElem? (i := 60) rfl)) (hw _ (List.mem_of_getElem? (i := 59) rfl)) (hw _ (List.mem_of_getElem? (i := 13) rfl)) (by decide) Ek (argsL := [(.long (kg nx.toNatClampNeg))]) (rest := [(.int nx)]) (rm11 l Z a0 hw [] o0 (kg nx.toNatClampNeg) Hk n0 Zk Fsk) (W := 1) (by decide) (by decide) e38 (g := (mkF m 39 #[.val (.ref o0), .val (.int u1), .val (.int (15 : Int32)), .val (.int gp), .val (.int nx)] [(.long (kg nx.toNatClampNeg)), (.ref o0), (.int nx)])) rfl (by rw [hml]; rfl) (lenOf pd_1 rfl) rfl (by show 2 * 0 + _ ≤ _; exact Nat.le_of_eq rfl) (hb hby d19_39) (by first | exact Nat.le_of_ble_eq_true rfl | exact hce_) (by first | exact Nat.le_of_ble_eq_true rfl | exact hsl_)
        obtain ⟨rfl, N40q, e40⟩ := hQ40
        have N40 := Fr.app Nk N40q
        refine OFin.go st40 ?_
        show OFin p e below _ (T40.setTop (mkF m 42 #[.val (.ref o0), .val (.int u1), .val (.int (15 : Int32)), .val (.int gp), .val (.int nx)] [(.int (hmI (kg nx.toNatClampNeg))), (.int nx)]))
        have S41 : ∀ t, Steps p.tables e below (T40.setTop (mkF m 51 #[.val (.ref o0), .val (.int u1), .val (.int (15 : Int32)), .val (.int gp), .val (.int nx)] [(.int ((nx - gp) &&& (15 : Int32))), (.int ((nx - (hmI (kg nx.toNatClampNeg))) &&& (15 : Int32)))])) t → Steps p.tables e below (T40.setTop (mkF m 42 #[.val (.ref o0), .val (.int u1), .val (.int (15 : Int32)), .val (.int gp), .val (.int nx)] [(.int (hmI (kg nx.toNatClampNeg))), (.int nx)])) t := by
          intro t k
          show Steps p.tables e below (T40.setTop (mkF m 42 #[.val (.ref o0), .val (.int u1), .val (.int (15 : Int32)), .val (.int gp), .val (.int nx)] [(.int (hmI (kg nx.toNatClampNeg))), (.int nx)])) t
          refine XS.isub X40.here hx rfl (hb hby d19_42) rfl ?_
          show Steps p.tables e below (T40.setTop (mkF m 43 #[.val (.ref o0), .val (.int u1), .val (.int (15 : Int32)), .val (.int gp), .val (.int nx)] [(.int (nx - (hmI (kg nx.toNatClampNeg))))])) t
          refine XS.iloadN X40.here hx rfl (hb hby d19_43) rfl ?_
          show Steps p.tables e below (T40.setTop (mkF m 44 #[.val (.ref o0), .val (.int u1), .val (.int (15 : Int32)), .val (.int gp), .val (.int nx)] [(.int (15 : Int32)), (.int (nx - (hmI (kg nx.toNatClampNeg))))])) t
          refine XS.iand X40.here hx rfl (hb hby d19_44) rfl ?_
          show Steps p.tables e below (T40.setTop (mkF m 45 #[.val (.ref o0), .val (.int u1), .val (.int (15 : Int32)), .val (.int gp), .val (.int nx)] [(.int ((nx - (hmI (kg nx.toNatClampNeg))) &&& (15 : Int32)))])) t
          refine XS.iload X40.here hx rfl (hb hby d19_45) rfl ?_
          show Steps p.tables e below (T40.setTop (mkF m 47 #[.val (.ref o0), .val (.int u1), .val (.int (15 : Int32)), .val (.int gp), .val (.int nx)] [(.int nx), (.int ((nx - (hmI (kg nx.toNatClampNeg))) &&& (15 : Int32)))])) t
          refine XS.iloadN X40.here hx rfl (hb hby d19_47) rfl ?_
          show Steps p.tables e below (T40.setTop (mkF m 48 #[.val (.ref o0), .val (.int u1), .val (.int (15 : Int32)), .val (.int gp), .val (.int nx)] [(.int gp), (.int nx), (.int ((nx - (hmI (kg nx.toNatClampNeg))) &&& (15 : Int32)))])) t
          refine XS.isub X40.here hx rfl (hb hby d19_48) rfl ?_
          show Steps p.tables e below (T40.setTop (mkF m 49 #[.val (.ref o0), .val (.int u1), .val (.int (15 : Int32)), .val (.int gp), .val (.int nx)] [(.int (nx - gp)), (.int ((nx - (hmI (kg nx.toNatClampNeg))) &&& (15 : Int32)))])) t
          refine XS.iloadN X40.here hx rfl (hb hby d19_49) rfl ?_
          show Steps p.tables e below (T40.setTop (mkF m 50 #[.val (.ref o0), .val (.int u1), .val (.int (15 : Int32)), .val (.int gp), .val (.int nx)] [(.int (15 : Int32)), (.int (nx - gp)), (.int ((nx - (hmI (kg nx.toNatClampNeg))) &&& (15 : Int32)))])) t
          refine XS.iand X40.here hx rfl (hb hby d19_50) rfl ?_
          exact k
        refine OFin.go S41 ?_
        by_cases h42 : (((nx - (hmI (kg nx.toNatClampNeg))) &&& (15 : Int32)) < ((nx - gp) &&& (15 : Int32)))
        · -- pc 51: (((nx - (hmI (kg nx.toNatClampNeg))) &&& (15 : Int32)) < ((nx - gp) &&& (15 : Int32)))
          have S43 : ∀ t, Steps p.tables e below (T40.setTop (mkF m 90 #[.val (.ref o0), .val (.int u1), .val (.int (15 : Int32)), .val (.int gp), .val (.int nx)] [])) t → Steps p.tables e below (T40.setTop (mkF m 51 #[.val (.ref o0), .val (.int u1), .val (.int (15 : Int32)), .val (.int gp), .val (.int nx)] [(.int ((nx - gp) &&& (15 : Int32))), (.int ((nx - (hmI (kg nx.toNatClampNeg))) &&& (15 : Int32)))])) t := by
            intro t k
            show Steps p.tables e below (T40.setTop (mkF m 51 #[.val (.ref o0), .val (.int u1), .val (.int (15 : Int32)), .val (.int gp), .val (.int nx)] [(.int ((nx - gp) &&& (15 : Int32))), (.int ((nx - (hmI (kg nx.toNatClampNeg))) &&& (15 : Int32)))])) t
            refine XS.icmpYes X40.here hx rfl (pc0 := 51) (pc' := 90) rfl (hb hby d19_51) rfl (tlt h42).1 (by decide) (by decide) ?_
            exact k
          refine OFin.go S43 ?_
          have S44 : ∀ t, Steps p.tables e below (T40.setTop (mkF m 17 #[.val (.ref o0), .val (.int u1), .val (.int (15 : Int32)), .val (.int gp), .val (.int ((nx + (1 : Int32)) &&& (15 : Int32)))] [])) t → Steps p.tables e below (T40.setTop (mkF m 90 #[.val (.ref o0), .val (.int u1), .val (.int (15 : Int32)), .val (.int gp), .val (.int nx)] [])) t := by
            intro t k
            show Steps p.tables e below (T40.setTop (mkF m 90 #[.val (.ref o0), .val (.int u1), .val (.int (15 : Int32)), .val (.int gp), .val (.int nx)] [])) t
            refine XS.iload X40.here hx rfl (hb hby d19_90) rfl ?_
            show Steps p.tables e below (T40.setTop (mkF m 92 #[.val (.ref o0), .val (.int u1), .val (.int (15 : Int32)), .val (.int gp), .val (.int nx)] [(.int nx)])) t
            refine XS.iconst X40.here hx rfl (hb hby d19_92) ?_
            show Steps p.tables e below (T40.setTop (mkF m 93 #[.val (.ref o0), .val (.int u1), .val (.int (15 : Int32)), .val (.int gp), .val (.int nx)] [(.int (1 : Int32)), (.int nx)])) t
            refine XS.iadd X40.here hx rfl (hb hby d19_93) rfl ?_
            show Steps p.tables e below (T40.setTop (mkF m 94 #[.val (.ref o0), .val (.int u1), .val (.int (15 : Int32)), .val (.int gp), .val (.int nx)] [(.int (nx + (1 : Int32)))])) t
            refine XS.iloadN X40.here hx rfl (hb hby d19_94) rfl ?_
            show Steps p.tables e below (T40.setTop (mkF m 95 #[.val (.ref o0), .val (.int u1), .val (.int (15 : Int32)), .val (.int gp), .val (.int nx)] [(.int (15 : Int32)), (.int (nx + (1 : Int32)))])) t
            refine XS.iand X40.here hx rfl (hb hby d19_95) rfl ?_
            show Steps p.tables e below (T40.setTop (mkF m 96 #[.val (.ref o0), .val (.int u1), .val (.int (15 : Int32)), .val (.int gp), .val (.int nx)] [(.int ((nx + (1 : Int32)) &&& (15 : Int32)))])) t
            refine XS.istore X40.here hx rfl (hb hby d19_96) rfl (l' := #[.val (.ref o0), .val (.int u1), .val (.int (15 : Int32)), .val (.int gp), .val (.int ((nx + (1 : Int32)) &&& (15 : Int32)))]) rfl ?_
            show Steps p.tables e below (T40.setTop (mkF m 98 #[.val (.ref o0), .val (.int u1), .val (.int (15 : Int32)), .val (.int gp), .val (.int ((nx + (1 : Int32)) &&& (15 : Int32)))] [])) t
            refine XS.goto X40.here hx rfl (pc0 := 98) (pc' := 17) rfl (hb hby d19_98) (by decide) (by decide) ?_
            exact k
          refine OFin.go S44 ?_
          exact ih T40 _ _ _ X40 _ e40 N40 (by first | assumption | decide) (by first | assumption | decide) Zk Kk gp ((nx + (1 : Int32)) &&& (15 : Int32)) kg vg (ii + 1) (Ek) (Fkk) (Fvk) (Fsk) (Ftk) (Vak) ⟨hg0, (own_nx hn0 hnl).1, by rw [(own_nx hn0 hnl).2]; omega, by omega, by rw [(own_nx hn0 hnl).2]; omega, own_skipW hg0 hn0 hnx (by omega) hG h23 h42, hO, hfw, hvz, hnv⟩
        · -- pc 51: not (((nx - (hmI (kg nx.toNatClampNeg))) &&& (15 : Int32)) < ((nx - gp) &&& (15 : Int32)))
          have S45 : ∀ t, Steps p.tables e below (T40.setTop (mkF m 54 #[.val (.ref o0), .val (.int u1), .val (.int (15 : Int32)), .val (.int gp), .val (.int nx)] [])) t → Steps p.tables e below (T40.setTop (mkF m 51 #[.val (.ref o0), .val (.int u1), .val (.int (15 : Int32)), .val (.int gp), .val (.int nx)] [(.int ((nx - gp) &&& (15 : Int32))), (.int ((nx - (hmI (kg nx.toNatClampNeg))) &&& (15 : Int32)))])) t := by
            intro t k
            show Steps p.tables e below (T40.setTop (mkF m 51 #[.val (.ref o0), .val (.int u1), .val (.int (15 : Int32)), .val (.int gp), .val (.int nx)] [(.int ((nx - gp) &&& (15 : Int32))), (.int ((nx - (hmI (kg nx.toNatClampNeg))) &&& (15 : Int32)))])) t
            refine XS.icmpNo X40.here hx rfl (hb hby d19_51) rfl (flt h42).1 ?_
            exact k
          refine OFin.go S45 ?_
          have S46 : ∀ t, Steps p.tables e below (T40.setTop (mkF m 55 #[.val (.ref o0), .val (.int u1), .val (.int (15 : Int32)), .val (.int gp), .val (.int nx)] [(.ref o0)])) t → Steps p.tables e below (T40.setTop (mkF m 54 #[.val (.ref o0), .val (.int u1), .val (.int (15 : Int32)), .val (.int gp), .val (.int nx)] [])) t := by
            intro t k
            show Steps p.tables e below (T40.setTop (mkF m 54 #[.val (.ref o0), .val (.int u1), .val (.int (15 : Int32)), .val (.int gp), .val (.int nx)] [])) t
            refine XS.aloadN X40.here hx rfl (hb hby d19_54) rfl rfl ?_
            exact k
          refine OFin.go S46 ?_
          obtain ⟨T47, X47, e47, st47⟩ := getF X40 hx hZ hown (host := "") (Or.inl (hw _ (List.mem_of_getElem? (i := 20) rfl))) Via.refl e40 Fkk (g := (mkF m 55 #[.val (.ref o0), .val (.int u1), .val (.int (15 : Int32)), .val (.int gp), .val (.int nx)] [(.ref o0)])) rfl rfl (hb hby d19_55)
          refine OFin.go st47 ?_
          show OFin p e below _ (T47.setTop (mkF m 58 #[.val (.ref o0), .val (.int u1), .val (.int (15 : Int32)), .val (.int gp), .val (.int nx)] [(.ref ka)]))
          have S48 : ∀ t, Steps p.tables e below (T47.setTop (mkF m 60 #[.val (.ref o0), .val (.int u1), .val (.int (15 : Int32)), .val (.int gp), .val (.int nx)] [(.ref o0), (.int gp), (.ref ka)])) t → Steps p.tables e below (T47.setTop (mkF m 58 #[.val (.ref o0), .val (.int u1), .val (.int (15 : Int32)), .val (.int gp), .val (.int nx)] [(.ref ka)])) t := by
            intro t k
            show Steps p.tables e below (T47.setTop (mkF m 58 #[.val (.ref o0), .val (.int u1), .val (.int (15 : Int32)), .val (.int gp), .val (.int nx)] [(.ref ka)])) t
            refine XS.iloadN X47.here hx rfl (hb hby d19_58) rfl ?_
            show Steps p.tables e below (T47.setTop (mkF m 59 #[.val (.ref o0), .val (.int u1), .val (.int (15 : Int32)), .val (.int gp), .val (.int nx)] [(.int gp), (.ref ka)])) t
            refine XS.aloadN X47.here hx rfl (hb hby d19_59) rfl rfl ?_
            exact k
          refine OFin.go S48 ?_
          obtain ⟨T49, X49, e49, st49⟩ := getF X47 hx hZ hown (host := "") (Or.inl (hw _ (List.mem_of_getElem? (i := 20) rfl))) Via.refl e47 Fkk (g := (mkF m 60 #[.val (.ref o0), .val (.int u1), .val (.int (15 : Int32)), .val (.int gp), .val (.int nx)] [(.ref o0), (.int gp), (.ref ka)])) rfl rfl (hb hby d19_60)
          refine OFin.go st49 ?_
          show OFin p e below _ (T49.setTop (mkF m 63 #[.val (.ref o0), .val (.int u1), .val (.int (15 : Int32)), .val (.int gp), .val (.int nx)] [(.ref ka), (.int gp), (.ref ka)]))
          have S50 : ∀ t, Steps p.tables e below (T49.setTop (mkF m 66 #[.val (.ref o0), .val (.int u1), .val (.int (15 : Int32)), .val (.int gp), .val (.int nx)] [(.long (kg nx.toNatClampNeg)), (.int gp), (.ref ka)])) t → Steps p.tables e below (T49.setTop (mkF m 63 #[.val (.ref o0), .val (.int u1), .val (.int (15 : Int32)), .val (.int gp), .val (.int nx)] [(.ref ka), (.int gp), (.ref ka)])) t := by
            intro t k
            show Steps p.tables e below (T49.setTop (mkF m 63 #[.val (.ref o0), .val (.int u1), .val (.int (15 : Int32)), .val (.int gp), .val (.int nx)] [(.ref ka), (.int gp), (.ref ka)])) t
            refine XS.iload X49.here hx rfl (hb hby d19_63) rfl ?_
            show Steps p.tables e below (T49.setTop (mkF m 65 #[.val (.ref o0), .val (.int u1), .val (.int (15 : Int32)), .val (.int gp), .val (.int nx)] [(.int nx), (.ref ka), (.int gp), (.ref ka)])) t
            refine rdJ X49 hx hZ e49 Vak (i := nx.toNatClampNeg) hn0 rfl hnl (x := (.long (kg nx.toNatClampNeg))) rfl (g := (mkF m 65 #[.val (.ref o0), .val (.int u1), .val (.int (15 : Int32)), .val (.int gp), .val (.int nx)] [(.int nx), (.ref ka), (.int gp), (.ref ka)])) rfl rfl (hb hby d19_65) ?_
            exact k
          refine OFin.go S50 ?_
          obtain ⟨T51, h51, X51, e51, W51, st51⟩ := wrJ X49 hx hZ e49 Vak (i := gp.toNatClampNeg) hg0 rfl hgl (g := (mkF m 66 #[.val (.ref o0), .val (.int u1), .val (.int (15 : Int32)), .val (.int gp), .val (.int nx)] [(.long (kg nx.toNatClampNeg)), (.int gp), (.ref ka)])) rfl rfl (hb hby d19_66)
          have V51 := Vak.set W51
          have N51 := Fr.snoc X51 N40 gek
          have Z51 : n0 ≤ h51.size := Nat.le_trans Zk (wr_le W51)
          have K51 := Keep.wr Kk W51 (Or.inl (List.mem_of_getElem? (i := 1) rfl))
          refine OFin.go st51 ?_
          show OFin p e below _ (T51.setTop (mkF m 67 #[.val (.ref o0), .val (.int u1), .val (.int (15 : Int32)), .val (.int gp), .val (.int nx)] []))
          have S52 : ∀ t, Steps p.tables e below (T51.setTop (mkF m 68 #[.val (.ref o0), .val (.int u1), .val (.int (15 : Int32)), .val (.int gp), .val (.int nx)] [(.ref o0)])) t → Steps p.tables e below (T51.setTop (mkF m 67 #[.val (.ref o0), .val (.int u1), .val (.int (15 : Int32)), .val (.int gp), .val (.int nx)] [])) t := by
            intro t k
            show Steps p.tables e below (T51.setTop (mkF m 67 #[.val (.ref o0), .val (.int u1), .val (.int (15 : Int32)), .val (.int gp), .val (.int nx)] [])) t
            refine XS.aloadN X51.here hx rfl (hb hby d19_67) rfl rfl ?_
            exact k
          refine OFin.go S52 ?_
          have F53 := Fvk.other W51 (Or.inl nok)
          obtain ⟨T54, X54, e54, st54⟩ := getF X51 hx hZ hown (host := "") (Or.inl (hw _ (List.mem_of_getElem? (i := 76) rfl))) Via.refl e51 F53 (g := (mkF m 68 #[.val (.ref o0), .val (.int u1), .val (.int (15 : Int32)), .val (.int gp), .val (.int nx)] [(.ref o0)])) rfl rfl (hb hby d19_68)
          refine OFin.go st54 ?_
          show OFin p e below _ (T54.setTop (mkF m 71 #[.val (.ref o0), .val (.int u1), .val (.int (15 : Int32)), .val (.int gp), .val (.int nx)] [.null]))
          refine OFin.go (fun t k => ?_ : ∀ t, Steps p.tables e below (T54.setTop (mkF m 87 #[.val (.ref o0), .val (.int u1), .val (.int (15 : Int32)), .val (.int gp), .val (.int nx)] [])) t → Steps p.tables e below (T54.setTop (mkF m 71 #[.val (.ref o0), .val (.int u1), .val (.int (15 : Int32)), .val (.int gp), .val (.int nx)] [.null])) t) ?_
          · show Steps p.tables e below (T54.setTop (mkF m 71 #[.val (.ref o0), .val (.int u1), .val (.int (15 : Int32)), .val (.int gp), .val (.int nx)] [.null])) t
            refine XS.ifnullYes X54.here hx rfl (pc0 := 71) (pc' := 87) rfl (hb hby d19_71) rfl (by decide) (by decide) ?_
            exact k
          have S55 : ∀ t, Steps p.tables e below (T54.setTop (mkF m 17 #[.val (.ref o0), .val (.int u1), .val (.int (15 : Int32)), .val (.int nx), .val (.int ((nx + (1 : Int32)) &&& (15 : Int32)))] [])) t → Steps p.tables e below (T54.setTop (mkF m 87 #[.val (.ref o0), .val (.int u1), .val (.int (15 : Int32)), .val (.int gp), .val (.int nx)] [])) t := by
            intro t k
            show Steps p.tables e below (T54.setTop (mkF m 87 #[.val (.ref o0), .val (.int u1), .val (.int (15 : Int32)), .val (.int gp), .val (.int nx)] [])) t
            refine XS.iload X54.here hx rfl (hb hby d19_87) rfl ?_
            show Steps p.tables e below (T54.setTop (mkF m 89 #[.val (.ref o0), .val (.int u1), .val (.int (15 : Int32)), .val (.int gp), .val (.int nx)] [(.int nx)])) t
            refine XS.istoreN X54.here hx rfl (hb hby d19_89) rfl (l' := #[.val (.ref o0), .val (.int u1), .val (.int (15 : Int32)), .val (.int nx), .val (.int nx)]) rfl ?_
            show Steps p.tables e below (T54.setTop (mkF m 90 #[.val (.ref o0), .val (.int u1), .val (.int (15 : Int32)), .val (.int nx), .val (.int nx)] [])) t
            refine XS.iload X54.here hx rfl (hb hby d19_90) rfl ?_
            show Steps p.tables e below (T54.setTop (mkF m 92 #[.val (.ref o0), .val (.int u1), .val (.int (15 : Int32)), .val (.int nx), .val (.int nx)] [(.int nx)])) t
            refine XS.iconst X54.here hx rfl (hb hby d19_92) ?_
            show Steps p.tables e below (T54.setTop (mkF m 93 #[.val (.ref o0), .val (.int u1), .val (.int (15 : Int32)), .val (.int nx), .val (.int nx)] [(.int (1 : Int32)), (.int nx)])) t
            refine XS.iadd X54.here hx rfl (hb hby d19_93) rfl ?_
            show Steps p.tables e below (T54.setTop (mkF m 94 #[.val (.ref o0), .val (.int u1), .val (.int (15 : Int32)), .val (.int nx), .val (.int nx)] [(.int (nx + (1 : Int32)))])) t
            refine XS.iloadN X54.here hx rfl (hb hby d19_94) rfl ?_
            show Steps p.tables e below (T54.setTop (mkF m 95 #[.val (.ref o0), .val (.int u1), .val (.int (15 : Int32)), .val (.int nx), .val (.int nx)] [(.int (15 : Int32)), (.int (nx + (1 : Int32)))])) t
            refine XS.iand X54.here hx rfl (hb hby d19_95) rfl ?_
            show Steps p.tables e below (T54.setTop (mkF m 96 #[.val (.ref o0), .val (.int u1), .val (.int (15 : Int32)), .val (.int nx), .val (.int nx)] [(.int ((nx + (1 : Int32)) &&& (15 : Int32)))])) t
            refine XS.istore X54.here hx rfl (hb hby d19_96) rfl (l' := #[.val (.ref o0), .val (.int u1), .val (.int (15 : Int32)), .val (.int nx), .val (.int ((nx + (1 : Int32)) &&& (15 : Int32)))]) rfl ?_
            show Steps p.tables e below (T54.setTop (mkF m 98 #[.val (.ref o0), .val (.int u1), .val (.int (15 : Int32)), .val (.int nx), .val (.int ((nx + (1 : Int32)) &&& (15 : Int32)))] [])) t
            refine XS.goto X54.here hx rfl (pc0 := 98) (pc' := 17) rfl (hb hby d19_98) (by decide) (by decide) ?_
            exact k
          refine OFin.go S55 ?_
          have F56 := Ek.wr W51
          have F57 := Fkk.other W51 (Or.inl nok)
          have F58 := Fsk.other W51 (Or.inl nok)
          have F59 := Ftk.other W51 (Or.inl nok)
          exact ih T54 _ _ _ X54 _ e54 N51 (by first | assumption | decide) (by first | assumption | decide) Z51 K51 nx ((nx + (1 : Int32)) &&& (15 : Int32)) (upd kg gp.toNatClampNeg (kg nx.toNatClampNeg)) (upd vg gp.toNatClampNeg (vg nx.toNatClampNeg)) 1 (F56) (F57) (F53) (F58) (F59) ((V51).congr (fun i _ => own_updl _ _ _ i)) ⟨hn0, (own_nx hn0 hnl).1, by rw [(own_nx hn0 hnl).2], by omega, by rw [(own_nx hn0 hnl).2]; omega, own_moveW hg0 hn0 hnx (by omega) hG h23 h42, fun k v => (own_moveO hgl hnl (by have := hG.2.1; omega) k v).trans (hO k v), own_moveN hnl hfw hG.2.2.2.1, own_moveV h23 hvz, fun q => own_upd0 (hnv q) (hnv q _)⟩
  exact LOOP4 ((zz + 31 - u1.toNatClampNeg) % 16) T2 _ _ _ X2 _ e2 N0 (by first | assumption | decide) (by first | assumption | decide) Z0 K0 u1 ((u1 + (1 : Int32)) &&& (15 : Int32)) kf vf 1 (E0) (Fk) (Fv) (Fs) (Ft) (Va) ⟨hu0, (own_nx hu0 hu1).1, by rw [(own_nx hu0 hu1).2], by have : u1.toNatClampNeg ≠ zz := fun q => hk (by rw [q]; exact hz0); omega, by rw [(own_nx hu0 hu1).2]; omega, own_start hP.1 hP.2.1 hu1 hk, fun _ _ => Iff.rfl, fun _ _ q => q, fun u hu _ e => hP.2.2.2.1 u hu e, fun q => q⟩
theorem ef_rm9_n (m : MethodId) (o0 : Addr) (key : Int64) : entryFrame m #[(.ref o0), (.long key)] 5 = mkF m 0 #[.val (.ref o0), .val (.long key), .second, .unset, .unset] [] := by first | (simp [entryFrame, mkF, argsToLocals, Value.category]; done) | rfl
def Q_rm9_n (Z : State) (o0 : Addr) (key : Int64) (ka : Addr) (kf vf : Nat → Int64) (tk : Int32) (mm : Nat) (h0 : Heap) (n0 : Nat) (v : Option Value) (h : Heap) (L : List Loc) : Prop := ∃ (b : Int32) (kf' vf' : Nat → Int64) (tk' : Int32), v = some (.int b) ∧ Fr n0 L ∧ Keep h0 h [o0, ka] ∧ Exa Z h o0 "com/example/clockwrap/clockwrap/store/LongTable$Part" ∧ Fld Z h o0 "com/example/clockwrap/clockwrap/store/LongTable$Part" "keys" "[J" (.ref ka) ∧ Fld Z h o0 "com/example/clockwrap/clockwrap/store/LongTable$Part" "values" "[J" .null ∧ Fld Z h o0 "com/example/clockwrap/clockwrap/store/LongTable$Part" "shift" "I" (.int (60 : Int32)) ∧ Fld Z h o0 "com/example/clockwrap/clockwrap/store/LongTable$Part" "taken" "I" (.int tk') ∧ Ara Z h ka .long 16 (fun i => .long (kf' i)) ∧ PI hm kf' vf' tk' (mm + 1) ∧ (∀ kk vv, kk ≠ 0 → (In kf' vf' kk vv ↔ kk ≠ key ∧ In kf vf kk vv)) ∧ ((∀ i, vf i = 0) → ∀ i, vf' i = 0)
theorem d9_0 : decode prog_33_method_6_code 0 = .ok (.aload_n 0, 1) := by decide +kernel
theorem d9_1 : decode prog_33_method_6_code 1 = .ok (.lload_n 1, 1) := by decide +kernel
theorem d9_2 : decode prog_33_method_6_code 2 = .ok (.invokevirtual 27, 3) := by decide +kernel
theorem d9_5 : decode prog_33_method_6_code 5 = .ok (.istore_n 3, 1) := by decide +kernel
theorem d9_6 : decode prog_33_method_6_code 6 = .ok (.aload_n 0, 1) := by decide +kernel
theorem d9_7 : decode prog_33_method_6_code 7 = .ok (.getfield 11, 3) := by decide +kernel
theorem d9_10 : decode prog_33_method_6_code 10 = .ok (.iload_n 3, 1) := by decide +kernel
theorem d9_11 : decode prog_33_method_6_code 11 = .ok (.laload, 1) := by decide +kernel
theorem d9_12 : decode prog_33_method_6_code 12 = .ok (.lload_n 1, 1) := by decide +kernel
theorem d9_13 : decode prog_33_method_6_code 13 = .ok (.lcmp, 1) := by decide +kernel
theorem d9_14 : decode prog_33_method_6_code 14 = .ok (.ifCond .ne 7, 3) := by decide +kernel
theorem d9_17 : decode prog_33_method_6_code 17 = .ok (.iconst 1, 1) := by decide +kernel
theorem d9_18 : decode prog_33_method_6_code 18 = .ok (.goto 4, 3) := by decide +kernel
theorem d9_22 : decode prog_33_method_6_code 22 = .ok (.istore 4, 2) := by decide +kernel
theorem d9_24 : decode prog_33_method_6_code 24 = .ok (.iload 4, 2) := by decide +kernel
theorem d9_26 : decode prog_33_method_6_code 26 = .ok (.ifCond .eq 18, 3) := by decide +kernel
theorem d9_29 : decode prog_33_method_6_code 29 = .ok (.aload_n 0, 1) := by decide +kernel
theorem d9_30 : decode prog_33_method_6_code 30 = .ok (.iload_n 3, 1) := by decide +kernel
theorem pd_3 : parseMethodDescriptor "(I)V" = some ⟨[.int], none⟩ := by decide +kernel
theorem d9_31 : decode prog_33_method_6_code 31 = .ok (.invokevirtual 38, 3) := by decide +kernel
theorem d9_34 : decode prog_33_method_6_code 34 = .ok (.aload_n 0, 1) := by decide +kernel
theorem d9_35 : decode prog_33_method_6_code 35 = .ok (.dup, 1) := by decide +kernel
theorem d9_36 : decode prog_33_method_6_code 36 = .ok (.getfield 42, 3) := by decide +kernel
theorem d9_39 : decode prog_33_method_6_code 39 = .ok (.iconst 1, 1) := by decide +kernel
theorem d9_40 : decode prog_33_method_6_code 40 = .ok (.isub, 1) := by decide +kernel
theorem d9_41 : decode prog_33_method_6_code 41 = .ok (.putfield 42, 3) := by decide +kernel
theorem d9_44 : decode prog_33_method_6_code 44 = .ok (.iload 4, 2) := by decide +kernel
theorem d9_46 : decode prog_33_method_6_code 46 = .ok (.ireturn, 1) := by decide +kernel
theorem d9_21 : decode prog_33_method_6_code 21 = .ok (.iconst 0, 1) := by decide +kernel
set_option maxRecDepth 65536 in
set_option maxHeartbeats 40000000 in
theorem rm9_n (l : Launch) (Z : State) (a0 : Array Value) (hw : ∀ d ∈ tables_1, d.before a0 Z = true) (ws : List Jvm.Cond) (o0 : Addr) (key : Int64) (ka : Addr) (kf vf : Nat → Int64) (tk : Int32) (mm : Nat) (h0 : Heap) (n0 : Nat) (Z0 : n0 ≤ h0.size) (geo : n0 ≤ o0) (gek : n0 ≤ ka) (nok : o0 ≠ ka) (E0 : Exa Z h0 o0 "com/example/clockwrap/clockwrap/store/LongTable$Part") (Fk : Fld Z h0 o0 "com/example/clockwrap/clockwrap/store/LongTable$Part" "keys" "[J" (.ref ka)) (Fv : Fld Z h0 o0 "com/example/clockwrap/clockwrap/store/LongTable$Part" "values" "[J" .null) (Fs : Fld Z h0 o0 "com/example/clockwrap/clockwrap/store/LongTable$Part" "shift" "I" (.int (60 : Int32))) (Ft : Fld Z h0 o0 "com/example/clockwrap/clockwrap/store/LongTable$Part" "taken" "I" (.int tk)) (Va : Ara Z h0 ka .long 16 (fun i => .long (kf i))) (hP : PI hm kf vf tk mm) (hm10 : mm < 10) (hk : key ≠ 0) :
    MetFree l (⟨"com/example/clockwrap/clockwrap/store/LongTable$Part", "remove", "(J)Z"⟩ : MethodName) (head1 (Jvm.Cond.code (⟨"com/example/clockwrap/clockwrap/store/LongTable$Part", "remove", "(J)Z"⟩ : MethodName) prog_33_method_6_code 5 (some .boolean) :: ws) ({ frames := 2, cells := 0, slots := 0, locals := 40 } : Room)) (fun a U => a = #[(.ref o0), (.long key)] ∧ Z.Warmed39 U.vm ∧ U.heap = h0) (fun _ _ _ _ _ => True) (fun _ U o U' => ∃ v L, o = .returned v ∧ (Q_rm9_n Z o0 key ka kf vf tk mm h0 n0) v U'.heap L ∧ FrameEnd U o U' L ({ frames := 2, cells := 0, slots := 0, locals := 40 } : Room).cells ({ frames := 2, cells := 0, slots := 0, locals := 40 } : Room).slots) := by
  refine MetFree.of_bodySF (plainFor_of_name pn_1) hisR ?_
  intro p e s m args below meth c s₁ Bd hml0 hP hK
  obtain ⟨rfl, hZ, hh⟩ := hP
  have hx := Bd.exec
  have hby := Bd.bytes
  have hml : c.maxLocals = 5 := hml0
  have hown : s.vm.findClass "com/example/clockwrap/clockwrap/store/LongTable$Part" = some m.cls := findClass_of_methodNamed Bd.named
  have hnm := (name_of_methodNamed Bd.named Bd.method).1
  have X0 : Stand p l e ({ frames := 2, cells := 0, slots := 0, locals := 40 } : Room) s m #[(.ref o0), (.long key)] below meth c s₁ [] 0 0 := Stand.of_body Bd
  have e0 : s₁.heap = h0 := by rw [← hh, Bd.state]; rfl
  have N0 := Fr.nil n0
  show OFin p e below (ORet (Q_rm9_n Z o0 key ka kf vf tk mm h0 n0) s ({ frames := 2, cells := 0, slots := 0, locals := 40 } : Room).cells ({ frames := 2, cells := 0, slots := 0, locals := 40 } : Room).slots) (s₁.setTop (entryFrame m #[(.ref o0), (.long key)] 5))
  refine OFin.go (fun t k => castTop (ef_rm9_n m o0 key) k) ?_
  have K0 := Keep.refl h0 [o0, ka]
  show OFin p e below (ORet (Q_rm9_n Z o0 key ka kf vf tk mm h0 n0) s ({ frames := 2, cells := 0, slots := 0, locals := 40 } : Room).cells ({ frames := 2, cells := 0, slots := 0, locals := 40 } : Room).slots) (s₁.setTop (mkF m 0 #[.val (.ref o0), .val (.long key), .second, .unset, .unset] []))
  have S1 : ∀ t, Steps p.tables e below (s₁.setTop (mkF m 2 #[.val (.ref o0), .val (.long key), .second, .unset, .unset] [(.long key), (.ref o0)])) t → Steps p.tables e below (s₁.setTop (mkF m 0 #[.val (.ref o0), .val (.long key), .second, .unset, .unset] [])) t := by
    intro t k
    show Steps p.tables e below (s₁.setTop (mkF m 0 #[.val (.ref o0), .val (.long key), .second, .unset, .unset] [])) t
    refine XS.aloadN X0.here hx rfl (hb hby d9_0) rfl rfl ?_
    show Steps p.tables e below (s₁.setTop (mkF m 1 #[.val (.ref o0), .val (.long key), .second, .unset, .unset] [(.ref o0)])) t
    refine XS.lloadN X0.here hx rfl (hb hby d9_1) rfl ?_
    exact k
  refine OFin.go S1 ?_
  obtain ⟨_, T2, Lc2, X2, hQ2, st2⟩ := privQ X0 hx hZ (y := (⟨"com/example/clockwrap/clockwrap/store/LongTable$Part", "slot", "(J)I"⟩ : MethodName)) hown (hw _ (List.mem_of_getElem? (i := 53) rfl)) (hw _ (List.mem_of_getElem? (i := 54) rfl)) (hw _ (List.mem_of_getElem? (i := 14) rfl)) (hw _ (List.mem_of_getElem? (i := 56) rfl)) (hw _ (List.mem_of_getElem? (i := 55) rfl)) (hw _ (List.mem_of_getElem? (i := 13) rfl)) (by decide) E0 (argsL := [(.long key)]) (rest := []) (rm10 l Z a0 hw [] o0 key ka kf h0 n0 Z0 E0 Fs Fk Va (hP.free (by omega))) (W := 0) (by decide) (by decide) e0 (g := (mkF m 2 #[.val (.ref o0), .val (.long key), .second, .unset, .unset] [(.long key), (.ref o0)])) rfl (by rw [hml]; rfl) (lenOf pd_1 rfl) rfl (by show 2 * 0 + _ ≤ _; exact Nat.le_of_eq rfl) (hb hby d9_2) (Nat.le_of_ble_eq_true rfl) (Nat.le_of_ble_eq_true rfl)
  obtain ⟨sl, rfl, N2q, e2, hs0, hfn⟩ := hQ2
  have N2 := Fr.app N0 N2q
  refine OFin.go st2 ?_
  show OFin p e below _ (T2.setTop (mkF m 5 #[.val (.ref o0), .val (.long key), .second, .unset, .unset] [(.int sl)]))
  have S3 : ∀ t, Steps p.tables e below (T2.setTop (mkF m 7 #[.val (.ref o0), .val (.long key), .second, .val (.int sl), .unset] [(.ref o0)])) t → Steps p.tables e below (T2.setTop (mkF m 5 #[.val (.ref o0), .val (.long key), .second, .unset, .unset] [(.int sl)])) t := by
    intro t k
    show Steps p.tables e below (T2.setTop (mkF m 5 #[.val (.ref o0), .val (.long key), .second, .unset, .unset] [(.int sl)])) t
    refine XS.istoreN X2.here hx rfl (hb hby d9_5) rfl (l' := #[.val (.ref o0), .val (.long key), .second, .val (.int sl), .unset]) rfl ?_
    show Steps p.tables e below (T2.setTop (mkF m 6 #[.val (.ref o0), .val (.long key), .second, .val (.int sl), .unset] [])) t
    refine XS.aloadN X2.here hx rfl (hb hby d9_6) rfl rfl ?_
    exact k
  refine OFin.go S3 ?_
  obtain ⟨T4, X4, e4, st4⟩ := getF X2 hx hZ hown (host := "") (Or.inl (hw _ (List.mem_of_getElem? (i := 20) rfl))) Via.refl e2 Fk (g := (mkF m 7 #[.val (.ref o0), .val (.long key), .second, .val (.int sl), .unset] [(.ref o0)])) rfl rfl (hb hby d9_7)
  refine OFin.go st4 ?_
  show OFin p e below _ (T4.setTop (mkF m 10 #[.val (.ref o0), .val (.long key), .second, .val (.int sl), .unset] [(.ref ka)]))
  have S5 : ∀ t, Steps p.tables e below (T4.setTop (mkF m 14 #[.val (.ref o0), .val (.long key), .second, .val (.int sl), .unset] [(.int (lcmpW (kf sl.toNatClampNeg) key))])) t → Steps p.tables e below (T4.setTop (mkF m 10 #[.val (.ref o0), .val (.long key), .second, .val (.int sl), .unset] [(.ref ka)])) t := by
    intro t k
    show Steps p.tables e below (T4.setTop (mkF m 10 #[.val (.ref o0), .val (.long key), .second, .val (.int sl), .unset] [(.ref ka)])) t
    refine XS.iloadN X4.here hx rfl (hb hby d9_10) rfl ?_
    show Steps p.tables e below (T4.setTop (mkF m 11 #[.val (.ref o0), .val (.long key), .second, .val (.int sl), .unset] [(.int sl), (.ref ka)])) t
    refine rdJ X4 hx hZ e4 Va (i := sl.toNatClampNeg) hs0 rfl (own_fls hfn) (x := (.long (kf sl.toNatClampNeg))) rfl (g := (mkF m 11 #[.val (.ref o0), .val (.long key), .second, .val (.int sl), .unset] [(.int sl), (.ref ka)])) rfl rfl (hb hby d9_11) ?_
    show Steps p.tables e below (T4.setTop (mkF m 12 #[.val (.ref o0), .val (.long key), .second, .val (.int sl), .unset] [(.long (kf sl.toNatClampNeg))])) t
    refine XS.lloadN X4.here hx rfl (hb hby d9_12) rfl ?_
    show Steps p.tables e below (T4.setTop (mkF m 13 #[.val (.ref o0), .val (.long key), .second, .val (.int sl), .unset] [(.long key), (.long (kf sl.toNatClampNeg))])) t
    refine XS.lcmp X4.here hx rfl (hb hby d9_13) rfl ?_
    exact k
  refine OFin.go S5 ?_
  by_cases h6 : ((kf sl.toNatClampNeg) = key)
  · -- pc 14: ((kf sl.toNatClampNeg) = key)
    have S7 : ∀ t, Steps p.tables e below (T4.setTop (mkF m 17 #[.val (.ref o0), .val (.long key), .second, .val (.int sl), .unset] [])) t → Steps p.tables e below (T4.setTop (mkF m 14 #[.val (.ref o0), .val (.long key), .second, .val (.int sl), .unset] [(.int (lcmpW (kf sl.toNatClampNeg) key))])) t := by
      intro t k
      show Steps p.tables e below (T4.setTop (mkF m 14 #[.val (.ref o0), .val (.long key), .second, .val (.int sl), .unset] [(.int (lcmpW (kf sl.toNatClampNeg) key))])) t
      refine XS.ifNo X4.here hx rfl (hb hby d9_14) rfl (lc_ne_f h6) ?_
      exact k
    refine OFin.go S7 ?_
    have S8 : ∀ t, Steps p.tables e below (T4.setTop (mkF m 26 #[.val (.ref o0), .val (.long key), .second, .val (.int sl), .val (.int (1 : Int32))] [(.int (1 : Int32))])) t → Steps p.tables e below (T4.setTop (mkF m 17 #[.val (.ref o0), .val (.long key), .second, .val (.int sl), .unset] [])) t := by
      intro t k
      show Steps p.tables e below (T4.setTop (mkF m 17 #[.val (.ref o0), .val (.long key), .second, .val (.int sl), .unset] [])) t
      refine XS.iconst X4.here hx rfl (hb hby d9_17) ?_
      show Steps p.tables e below (T4.setTop (mkF m 18 #[.val (.ref o0), .val (.long key), .second, .val (.int sl), .unset] [(.int (1 : Int32))])) t
      refine XS.goto X4.here hx rfl (pc0 := 18) (pc' := 22) rfl (hb hby d9_18) (by decide) (by decide) ?_
      show Steps p.tables e below (T4.setTop (mkF m 22 #[.val (.ref o0), .val (.long key), .second, .val (.int sl), .unset] [(.int (1 : Int32))])) t
      refine XS.istore X4.here hx rfl (hb hby d9_22) rfl (l' := #[.val (.ref o0), .val (.long key), .second, .val (.int sl), .val (.int (1 : Int32))]) rfl ?_
      show Steps p.tables e below (T4.setTop (mkF m 24 #[.val (.ref o0), .val (.long key), .second, .val (.int sl), .val (.int (1 : Int32))] [])) t
      refine XS.iload X4.here hx rfl (hb hby d9_24) rfl ?_
      exact k
    refine OFin.go S8 ?_
    have S9 : ∀ t, Steps p.tables e below (T4.setTop (mkF m 29 #[.val (.ref o0), .val (.long key), .second, .val (.int sl), .val (.int (1 : Int32))] [])) t → Steps p.tables e below (T4.setTop (mkF m 26 #[.val (.ref o0), .val (.long key), .second, .val (.int sl), .val (.int (1 : Int32))] [(.int (1 : Int32))])) t := by
      intro t k
      show Steps p.tables e below (T4.setTop (mkF m 26 #[.val (.ref o0), .val (.long key), .second, .val (.int sl), .val (.int (1 : Int32))] [(.int (1 : Int32))])) t
      refine XS.ifNo X4.here hx rfl (hb hby d9_26) rfl ((if0 _ _).trans (feq (by decide)).1) ?_
      exact k
    refine OFin.go S9 ?_
    have S10 : ∀ t, Steps p.tables e below (T4.setTop (mkF m 31 #[.val (.ref o0), .val (.long key), .second, .val (.int sl), .val (.int (1 : Int32))] [(.int sl), (.ref o0)])) t → Steps p.tables e below (T4.setTop (mkF m 29 #[.val (.ref o0), .val (.long key), .second, .val (.int sl), .val (.int (1 : Int32))] [])) t := by
      intro t k
      show Steps p.tables e below (T4.setTop (mkF m 29 #[.val (.ref o0), .val (.long key), .second, .val (.int sl), .val (.int (1 : Int32))] [])) t
      refine XS.aloadN X4.here hx rfl (hb hby d9_29) rfl rfl ?_
      show Steps p.tables e below (T4.setTop (mkF m 30 #[.val (.ref o0), .val (.long key), .second, .val (.int sl), .val (.int (1 : Int32))] [(.ref o0)])) t
      refine XS.iloadN X4.here hx rfl (hb hby d9_30) rfl ?_
      exact k
    refine OFin.go S10 ?_
    obtain ⟨_, T11, Lc11, X11, hQ11, st11⟩ := privQ X4 hx hZ (y := (⟨"com/example/clockwrap/clockwrap/store/LongTable$Part", "free", "(I)V"⟩ : MethodName)) hown (hw _ (List.mem_of_getElem? (i := 106) rfl)) (hw _ (List.mem_of_getElem? (i := 107) rfl)) (hw _ (List.mem_of_getElem? (i := 14) rfl)) (hw _ (List.mem_of_getElem? (i := 109) rfl)) (hw _ (List.mem_of_getElem? (i := 108) rfl)) (hw _ (List.mem_of_getElem? (i := 13) rfl)) (by decide) E0 (argsL := [(.int sl)]) (rest := []) (rm19_n l Z a0 hw [] o0 sl ka kf vf tk mm h0 n0 Z0 geo gek nok E0 Fk Fv Fs Ft Va hP hm10 hs0 (own_fls hfn) (by rw [h6]; exact hk)) (W := 0) (by decide) (by decide) e4 (g := (mkF m 31 #[.val (.ref o0), .val (.long key), .second, .val (.int sl), .val (.int (1 : Int32))] [(.int sl), (.ref o0)])) rfl (by rw [hml]; rfl) (lenOf pd_3 rfl) rfl (by show 2 * 0 + _ ≤ _; exact Nat.le_of_eq rfl) (hb hby d9_31) (Nat.le_of_ble_eq_true rfl) (Nat.le_of_ble_eq_true rfl)
    obtain ⟨kf', vf', rfl, N11q, K11q, E11, Fk11, Fv11, Fs11, Ft11, Va11, hPr, hIn, hnv⟩ := hQ11
    have Z11 : n0 ≤ T11.heap.size := Nat.le_trans Z0 K11q.1
    have K11 := Keep.trans K0 K11q (allS (Or.inl (List.mem_of_getElem? (i := 0) rfl)) (allS (Or.inl (List.mem_of_getElem? (i := 1) rfl)) all0))
    have N11 := Fr.app N2 N11q
    refine OFin.go st11 ?_
    show OFin p e below _ (T11.setTop (mkF m 34 #[.val (.ref o0), .val (.long key), .second, .val (.int sl), .val (.int (1 : Int32))] []))
    have S12 : ∀ t, Steps p.tables e below (T11.setTop (mkF m 36 #[.val (.ref o0), .val (.long key), .second, .val (.int sl), .val (.int (1 : Int32))] [(.ref o0), (.ref o0)])) t → Steps p.tables e below (T11.setTop (mkF m 34 #[.val (.ref o0), .val (.long key), .second, .val (.int sl), .val (.int (1 : Int32))] [])) t := by
      intro t k
      show Steps p.tables e below (T11.setTop (mkF m 34 #[.val (.ref o0), .val (.long key), .second, .val (.int sl), .val (.int (1 : Int32))] [])) t
      refine XS.aloadN X11.here hx rfl (hb hby d9_34) rfl rfl ?_
      show Steps p.tables e below (T11.setTop (mkF m 35 #[.val (.ref o0), .val (.long key), .second, .val (.int sl), .val (.int (1 : Int32))] [(.ref o0)])) t
      refine XS.dup X11.here hx rfl (hb hby d9_35) rfl rfl ?_
      exact k
    refine OFin.go S12 ?_
    obtain ⟨T13, X13, e13, st13⟩ := getF X11 hx hZ hown (host := "") (Or.inl (hw _ (List.mem_of_getElem? (i := 78) rfl))) Via.refl rfl Ft11 (g := (mkF m 36 #[.val (.ref o0), .val (.long key), .second, .val (.int sl), .val (.int (1 : Int32))] [(.ref o0), (.ref o0)])) rfl rfl (hb hby d9_36)
    refine OFin.go st13 ?_
    show OFin p e below _ (T13.setTop (mkF m 39 #[.val (.ref o0), .val (.long key), .second, .val (.int sl), .val (.int (1 : Int32))] [(.int tk), (.ref o0)]))
    have S14 : ∀ t, Steps p.tables e below (T13.setTop (mkF m 41 #[.val (.ref o0), .val (.long key), .second, .val (.int sl), .val (.int (1 : Int32))] [(.int (tk - (1 : Int32))), (.ref o0)])) t → Steps p.tables e below (T13.setTop (mkF m 39 #[.val (.ref o0), .val (.long key), .second, .val (.int sl), .val (.int (1 : Int32))] [(.int tk), (.ref o0)])) t := by
      intro t k
      show Steps p.tables e below (T13.setTop (mkF m 39 #[.val (.ref o0), .val (.long key), .second, .val (.int sl), .val (.int (1 : Int32))] [(.int tk), (.ref o0)])) t
      refine XS.iconst X13.here hx rfl (hb hby d9_39) ?_
      show Steps p.tables e below (T13.setTop (mkF m 40 #[.val (.ref o0), .val (.long key), .second, .val (.int sl), .val (.int (1 : Int32))] [(.int (1 : Int32)), (.int tk), (.ref o0)])) t
      refine XS.isub X13.here hx rfl (hb hby d9_40) rfl ?_
      exact k
    refine OFin.go S14 ?_
    obtain ⟨T15, h15, X15, e15, W15, st15⟩ := putF X13 hx hZ hown (host := "") (Or.inl (hw _ (List.mem_of_getElem? (i := 78) rfl))) Via.refl e13 Ft11 E11 (Or.inl (hw _ (List.mem_of_getElem? (i := 79) rfl))) (hw _ (List.mem_of_getElem? (i := 13) rfl)) (ty := .int) (by decide) rfl rfl (g := (mkF m 41 #[.val (.ref o0), .val (.long key), .second, .val (.int sl), .val (.int (1 : Int32))] [(.int (tk - (1 : Int32))), (.ref o0)])) rfl rfl (hb hby d9_41)
    have Fw15 := Ft11.same W15
    have N15 := Fr.snoc X15 N11 geo
    have Z15 : n0 ≤ h15.size := Nat.le_trans Z11 (wr_le W15)
    have K15 := Keep.wr K11 W15 (Or.inl (List.mem_of_getElem? (i := 0) rfl))
    refine OFin.go st15 ?_
    show OFin p e below _ (T15.setTop (mkF m 44 #[.val (.ref o0), .val (.long key), .second, .val (.int sl), .val (.int (1 : Int32))] []))
    have S16 : ∀ t, Steps p.tables e below (T15.setTop (mkF m 46 #[.val (.ref o0), .val (.long key), .second, .val (.int sl), .val (.int (1 : Int32))] [(.int (1 : Int32))])) t → Steps p.tables e below (T15.setTop (mkF m 44 #[.val (.ref o0), .val (.long key), .second, .val (.int sl), .val (.int (1 : Int32))] [])) t := by
      intro t k
      show Steps p.tables e below (T15.setTop (mkF m 44 #[.val (.ref o0), .val (.long key), .second, .val (.int sl), .val (.int (1 : Int32))] [])) t
      refine XS.iload X15.here hx rfl (hb hby d9_44) rfl ?_
      exact k
    refine OFin.go S16 ?_
    have F17 := E11.wr W15
    have F18 := Fk11.other W15 (Or.inr (slot_ne (Or.inl (hw _ (List.mem_of_getElem? (i := 21) rfl))) (Or.inl (hw _ (List.mem_of_getElem? (i := 79) rfl))) (by decide) (t := (.array .long)) (t' := .int) (by decide) (by decide)))
    have F19 := Fv11.other W15 (Or.inr (slot_ne (Or.inl (hw _ (List.mem_of_getElem? (i := 77) rfl))) (Or.inl (hw _ (List.mem_of_getElem? (i := 79) rfl))) (by decide) (t := (.array .long)) (t' := .int) (by decide) (by decide)))
    have F20 := Fs11.other W15 (Or.inr (slot_ne (Or.inl (hw _ (List.mem_of_getElem? (i := 28) rfl))) (Or.inl (hw _ (List.mem_of_getElem? (i := 79) rfl))) (by decide) (t := .int) (t' := .int) (by decide) (by decide)))
    have F21 := Va11.other W15 (Ne.symm nok)
    exact finZ X15 hx Bd.notSynchronized (t := .boolean) Bd.returns (by simp) (hb hby d9_46) rfl (by decide) (by decide) (by rw [e15]; exact ⟨_, kf', vf', tk - 1, rfl, N15, K15, F17, F18, F19, F20, Fw15, F21, hPr _ (own_t hP hm10).2.2, fun kk vv q => by rw [hIn kk vv q, h6], hnv⟩)
  · -- pc 14: not ((kf sl.toNatClampNeg) = key)
    have S22 : ∀ t, Steps p.tables e below (T4.setTop (mkF m 21 #[.val (.ref o0), .val (.long key), .second, .val (.int sl), .unset] [])) t → Steps p.tables e below (T4.setTop (mkF m 14 #[.val (.ref o0), .val (.long key), .second, .val (.int sl), .unset] [(.int (lcmpW (kf sl.toNatClampNeg) key))])) t := by
      intro t k
      show Steps p.tables e below (T4.setTop (mkF m 14 #[.val (.ref o0), .val (.long key), .second, .val (.int sl), .unset] [(.int (lcmpW (kf sl.toNatClampNeg) key))])) t
      refine XS.ifYes X4.here hx rfl (pc0 := 14) (pc' := 21) rfl (hb hby d9_14) rfl (lc_ne_t h6) (by decide) (by decide) ?_
      exact k
    refine OFin.go S22 ?_
    have S23 : ∀ t, Steps p.tables e below (T4.setTop (mkF m 26 #[.val (.ref o0), .val (.long key), .second, .val (.int sl), .val (.int (0 : Int32))] [(.int (0 : Int32))])) t → Steps p.tables e below (T4.setTop (mkF m 21 #[.val (.ref o0), .val (.long key), .second, .val (.int sl), .unset] [])) t := by
      intro t k
      show Steps p.tables e below (T4.setTop (mkF m 21 #[.val (.ref o0), .val (.long key), .second, .val (.int sl), .unset] [])) t
      refine XS.iconst X4.here hx rfl (hb hby d9_21) ?_
      show Steps p.tables e below (T4.setTop (mkF m 22 #[.val (.ref o0), .val (.long key), .second, .val (.int sl), .unset] [(.int (0 : Int32))])) t
      refine XS.istore X4.here hx rfl (hb hby d9_22) rfl (l' := #[.val (.ref o0), .val (.long key), .second, .val (.int sl), .val (.int (0 : Int32))]) rfl ?_
      show Steps p.tables e below (T4.setTop (mkF m 24 #[.val (.ref o0), .val (.long key), .second, .val (.int sl), .val (.int (0 : Int32))] [])) t
      refine XS.iload X4.here hx rfl (hb hby d9_24) rfl ?_
      exact k
    refine OFin.go S23 ?_
    have S24 : ∀ t, Steps p.tables e below (T4.setTop (mkF m 44 #[.val (.ref o0), .val (.long key), .second, .val (.int sl), .val (.int (0 : Int32))] [])) t → Steps p.tables e below (T4.setTop (mkF m 26 #[.val (.ref o0), .val (.long key), .second, .val (.int sl), .val (.int (0 : Int32))] [(.int (0 : Int32))])) t := by
      intro t k
      show Steps p.tables e below (T4.setTop (mkF m 26 #[.val (.ref o0), .val (.long key), .second, .val (.int sl), .val (.int (0 : Int32))] [(.int (0 : Int32))])) t
      refine XS.ifYes X4.here hx rfl (pc0 := 26) (pc' := 44) rfl (hb hby d9_26) rfl ((if0 _ _).trans (teq (by decide)).1) (by decide) (by decide) ?_
      exact k
    refine OFin.go S24 ?_
    have S25 : ∀ t, Steps p.tables e below (T4.setTop (mkF m 46 #[.val (.ref o0), .val (.long key), .second, .val (.int sl), .val (.int (0 : Int32))] [(.int (0 : Int32))])) t → Steps p.tables e below (T4.setTop (mkF m 44 #[.val (.ref o0), .val (.long key), .second, .val (.int sl), .val (.int (0 : Int32))] [])) t := by
      intro t k
      show Steps p.tables e below (T4.setTop (mkF m 44 #[.val (.ref o0), .val (.long key), .second, .val (.int sl), .val (.int (0 : Int32))] [])) t
      refine XS.iload X4.here hx rfl (hb hby d9_44) rfl ?_
      exact k
    refine OFin.go S25 ?_
    exact finZ X4 hx Bd.notSynchronized (t := .boolean) Bd.returns (by simp) (hb hby d9_46) rfl (by decide) (by decide) (by rw [e4]; exact ⟨_, kf, vf, tk, rfl, N2, K0, E0, Fk, Fv, Fs, Ft, Va, hP.mono (by omega), own_remS (fun q => h6 ((own_there hP.1 hP.2.1 hk hfn).mpr q)), fun q => q⟩)
theorem ef_rm18_n (m : MethodId) (o0 : Addr) (key : Int64) (val : Int64) : entryFrame m #[(.ref o0), (.long key), (.long val)] 7 = mkF m 0 #[.val (.ref o0), .val (.long key), .second, .val (.long val), .second, .unset, .unset] [] := by first | (simp [entryFrame, mkF, argsToLocals, Value.category]; done) | rfl
def Q_rm18_n (Z : State) (o0 : Addr) (key : Int64) (val : Int64) (ka : Addr) (kf : Nat → Int64) (tk : Int32) (mm : Nat) (h0 : Heap) (n0 : Nat) (v : Option Value) (h : Heap) (L : List Loc) : Prop := ∃ (b : Int32) (va : Addr) (kf' vf' : Nat → Int64) (tk' : Int32), v = some (.int b) ∧ Fr n0 L ∧ Keep h0 h [o0, ka] ∧ Exa Z h o0 "com/example/clockwrap/clockwrap/store/LongTable$Part" ∧ Fld Z h o0 "com/example/clockwrap/clockwrap/store/LongTable$Part" "keys" "[J" (.ref ka) ∧ Fld Z h o0 "com/example/clockwrap/clockwrap/store/LongTable$Part" "values" "[J" (.ref va) ∧ Fld Z h o0 "com/example/clockwrap/clockwrap/store/LongTable$Part" "shift" "I" (.int (60 : Int32)) ∧ Fld Z h o0 "com/example/clockwrap/clockwrap/store/LongTable$Part" "taken" "I" (.int tk') ∧ Ara Z h ka .long 16 (fun i => .long (kf' i)) ∧ Ara Z h va .long 16 (fun i => .long (vf' i)) ∧ h0.size ≤ va ∧ o0 ≠ va ∧ ka ≠ va ∧ PI hm kf' vf' tk' (mm + 1) ∧ (∀ kk vv, kk ≠ 0 → (In kf' vf' kk vv ↔ putM key val (In kf (fun _ => (0 : Int64))) kk vv))
theorem d18_0 : decode prog_33_method_4_code 0 = .ok (.aload_n 0, 1) := by decide +kernel
theorem d18_1 : decode prog_33_method_4_code 1 = .ok (.getfield 35, 3) := by decide +kernel
theorem d18_4 : decode prog_33_method_4_code 4 = .ok (.ifnonnull 14, 3) := by decide +kernel
theorem d18_7 : decode prog_33_method_4_code 7 = .ok (.aload_n 0, 1) := by decide +kernel
theorem d18_8 : decode prog_33_method_4_code 8 = .ok (.aload_n 0, 1) := by decide +kernel
theorem d18_9 : decode prog_33_method_4_code 9 = .ok (.getfield 11, 3) := by decide +kernel
theorem d18_12 : decode prog_33_method_4_code 12 = .ok (.arraylength, 1) := by decide +kernel
theorem d18_13 : decode prog_33_method_4_code 13 = .ok (.newarray .long, 2) := by decide +kernel
theorem d18_15 : decode prog_33_method_4_code 15 = .ok (.putfield 35, 3) := by decide +kernel
theorem d18_18 : decode prog_33_method_4_code 18 = .ok (.aload_n 0, 1) := by decide +kernel
theorem d18_19 : decode prog_33_method_4_code 19 = .ok (.lload_n 1, 1) := by decide +kernel
theorem d18_20 : decode prog_33_method_4_code 20 = .ok (.invokevirtual 27, 3) := by decide +kernel
theorem d18_23 : decode prog_33_method_4_code 23 = .ok (.istore 5, 2) := by decide +kernel
theorem d18_25 : decode prog_33_method_4_code 25 = .ok (.aload_n 0, 1) := by decide +kernel
theorem d18_26 : decode prog_33_method_4_code 26 = .ok (.getfield 11, 3) := by decide +kernel
theorem d18_29 : decode prog_33_method_4_code 29 = .ok (.iload 5, 2) := by decide +kernel
theorem d18_31 : decode prog_33_method_4_code 31 = .ok (.laload, 1) := by decide +kernel
theorem d18_32 : decode prog_33_method_4_code 32 = .ok (.lconst 0, 1) := by decide +kernel
theorem d18_33 : decode prog_33_method_4_code 33 = .ok (.lcmp, 1) := by decide +kernel
theorem d18_34 : decode prog_33_method_4_code 34 = .ok (.ifCond .ne 7, 3) := by decide +kernel
theorem d18_37 : decode prog_33_method_4_code 37 = .ok (.iconst 1, 1) := by decide +kernel
theorem d18_38 : decode prog_33_method_4_code 38 = .ok (.goto 4, 3) := by decide +kernel
theorem d18_41 : decode prog_33_method_4_code 41 = .ok (.iconst 0, 1) := by decide +kernel
theorem d18_42 : decode prog_33_method_4_code 42 = .ok (.istore 6, 2) := by decide +kernel
theorem d18_44 : decode prog_33_method_4_code 44 = .ok (.iload 6, 2) := by decide +kernel
theorem d18_46 : decode prog_33_method_4_code 46 = .ok (.ifCond .eq 14, 3) := by decide +kernel
theorem d18_49 : decode prog_33_method_4_code 49 = .ok (.aload_n 0, 1) := by decide +kernel
theorem d18_50 : decode prog_33_method_4_code 50 = .ok (.iload 5, 2) := by decide +kernel
theorem d18_52 : decode prog_33_method_4_code 52 = .ok (.lload_n 1, 1) := by decide +kernel
theorem d18_53 : decode prog_33_method_4_code 53 = .ok (.lload_n 3, 1) := by decide +kernel
theorem d18_54 : decode prog_33_method_4_code 54 = .ok (.invokevirtual 31, 3) := by decide +kernel
theorem d18_57 : decode prog_33_method_4_code 57 = .ok (.goto 11, 3) := by decide +kernel
theorem d18_68 : decode prog_33_method_4_code 68 = .ok (.iload 6, 2) := by decide +kernel
theorem d18_70 : decode prog_33_method_4_code 70 = .ok (.ireturn, 1) := by decide +kernel
theorem d18_60 : decode prog_33_method_4_code 60 = .ok (.aload_n 0, 1) := by decide +kernel
theorem d18_61 : decode prog_33_method_4_code 61 = .ok (.getfield 35, 3) := by decide +kernel
theorem d18_64 : decode prog_33_method_4_code 64 = .ok (.iload 5, 2) := by decide +kernel
theorem d18_66 : decode prog_33_method_4_code 66 = .ok (.lload_n 3, 1) := by decide +kernel
theorem d18_67 : decode prog_33_method_4_code 67 = .ok (.lastore, 1) := by decide +kernel
set_option maxRecDepth 65536 in
set_option maxHeartbeats 40000000 in
theorem rm18_n (l : Launch) (Z : State) (a0 : Array Value) (hw : ∀ d ∈ tables_1, d.before a0 Z = true) (ws : List Jvm.Cond) (o0 : Addr) (key : Int64) (val : Int64) (ka : Addr) (kf : Nat → Int64) (tk : Int32) (mm : Nat) (h0 : Heap) (n0 : Nat) (Z0 : n0 ≤ h0.size) (geo : n0 ≤ o0) (gek : n0 ≤ ka) (nok : o0 ≠ ka) (E0 : Exa Z h0 o0 "com/example/clockwrap/clockwrap/store/LongTable$Part") (Fk : Fld Z h0 o0 "com/example/clockwrap/clockwrap/store/LongTable$Part" "keys" "[J" (.ref ka)) (Fv : Fld Z h0 o0 "com/example/clockwrap/clockwrap/store/LongTable$Part" "values" "[J" .null) (Fs : Fld Z h0 o0 "com/example/clockwrap/clockwrap/store/LongTable$Part" "shift" "I" (.int (60 : Int32))) (Ft : Fld Z h0 o0 "com/example/clockwrap/clockwrap/store/LongTable$Part" "taken" "I" (.int tk)) (Va : Ara Z h0 ka .long 16 (fun i => .long (kf i))) (hP : PI hm kf (fun _ => (0 : Int64)) tk mm) (hm10 : mm < 10) (hk : key ≠ 0) :
    MetFree l (⟨"com/example/clockwrap/clockwrap/store/LongTable$Part", "put", "(JJ)Z"⟩ : MethodName) (head1 (Jvm.Cond.code (⟨"com/example/clockwrap/clockwrap/store/LongTable$Part", "put", "(JJ)Z"⟩ : MethodName) prog_33_method_4_code 7 (some .boolean) :: ws) ({ frames := 2, cells := 1, slots := 16, locals := 40 } : Room)) (fun a U => a = #[(.ref o0), (.long key), (.long val)] ∧ Z.Warmed39 U.vm ∧ U.heap = h0) (fun _ _ _ _ _ => True) (fun _ U o U' => ∃ v L, o = .returned v ∧ (Q_rm18_n Z o0 key val ka kf tk mm h0 n0) v U'.heap L ∧ FrameEnd U o U' L ({ frames := 2, cells := 1, slots := 16, locals := 40 } : Room).cells ({ frames := 2, cells := 1, slots := 16, locals := 40 } : Room).slots) := by
  refine MetFree.of_bodySF (plainFor_of_name pn_1) hisR ?_
  intro p e s m args below meth c s₁ Bd hml0 hP hK
  obtain ⟨rfl, hZ, hh⟩ := hP
  have hx := Bd.exec
  have hby := Bd.bytes
  have hml : c.maxLocals = 7 := hml0
  have hown : s.vm.findClass "com/example/clockwrap/clockwrap/store/LongTable$Part" = some m.cls := findClass_of_methodNamed Bd.named
  have hnm := (name_of_methodNamed Bd.named Bd.method).1
  have X0 : Stand p l e ({ frames := 2, cells := 1, slots := 16, locals := 40 } : Room) s m #[(.ref o0), (.long key), (.long val)] below meth c s₁ [] 0 0 := Stand.of_body Bd
  have e0 : s₁.heap = h0 := by rw [← hh, Bd.state]; rfl
  have N0 := Fr.nil n0
  show OFin p e below (ORet (Q_rm18_n Z o0 key val ka kf tk mm h0 n0) s ({ frames := 2, cells := 1, slots := 16, locals := 40 } : Room).cells ({ frames := 2, cells := 1, slots := 16, locals := 40 } : Room).slots) (s₁.setTop (entryFrame m #[(.ref o0), (.long key), (.long val)] 7))
  refine OFin.go (fun t k => castTop (ef_rm18_n m o0 key val) k) ?_
  have K0 := Keep.refl h0 [o0, ka]
  show OFin p e below (ORet (Q_rm18_n Z o0 key val ka kf tk mm h0 n0) s ({ frames := 2, cells := 1, slots := 16, locals := 40 } : Room).cells ({ frames := 2, cells := 1, slots := 16, locals := 40 } : Room).slots) (s₁.setTop (mkF m 0 #[.val (.ref o0), .val (.long key), .second, .val (.long val), .second, .unset, .unset] []))
  have S1 : ∀ t, Steps p.tables e below (s₁.setTop (mkF m 1 #[.val (.ref o0), .val (.long key), .second, .val (.long val), .second, .unset, .unset] [(.ref o0)])) t → Steps p.tables e below (s₁.setTop (mkF m 0 #[.val (.ref o0), .val (.long key), .second, .val (.long val), .second, .unset, .unset] [])) t := by
    intro t k
    show Steps p.tables e below (s₁.setTop (mkF m 0 #[.val (.ref o0), .val (.long key), .second, .val (.long val), .second, .unset, .unset] [])) t
    refine XS.aloadN X0.here hx rfl (hb hby d18_0) rfl rfl ?_
    exact k
  refine OFin.go S1 ?_
  obtain ⟨T2, X2, e2, st2⟩ := getF X0 hx hZ hown (host := "") (Or.inl (hw _ (List.mem_of_getElem? (i := 76) rfl))) Via.refl e0 Fv (g := (mkF m 1 #[.val (.ref o0), .val (.long key), .second, .val (.long val), .second, .unset, .unset] [(.ref o0)])) rfl rfl (hb hby d18_1)
  refine OFin.go st2 ?_
  show OFin p e below _ (T2.setTop (mkF m 4 #[.val (.ref o0), .val (.long key), .second, .val (.long val), .second, .unset, .unset] [.null]))
  refine OFin.go (fun t k => ?_ : ∀ t, Steps p.tables e below (T2.setTop (mkF m 7 #[.val (.ref o0), .val (.long key), .second, .val (.long val), .second, .unset, .unset] [])) t → Steps p.tables e below (T2.setTop (mkF m 4 #[.val (.ref o0), .val (.long key), .second, .val (.long val), .second, .unset, .unset] [.null])) t) ?_
  · show Steps p.tables e below (T2.setTop (mkF m 4 #[.val (.ref o0), .val (.long key), .second, .val (.long val), .second, .unset, .unset] [.null])) t
    refine XS.ifnonnullNo X2.here hx rfl (hb hby d18_4) rfl ?_
    exact k
  have S3 : ∀ t, Steps p.tables e below (T2.setTop (mkF m 9 #[.val (.ref o0), .val (.long key), .second, .val (.long val), .second, .unset, .unset] [(.ref o0), (.ref o0)])) t → Steps p.tables e below (T2.setTop (mkF m 7 #[.val (.ref o0), .val (.long key), .second, .val (.long val), .second, .unset, .unset] [])) t := by
    intro t k
    show Steps p.tables e below (T2.setTop (mkF m 7 #[.val (.ref o0), .val (.long key), .second, .val (.long val), .second, .unset, .unset] [])) t
    refine XS.aloadN X2.here hx rfl (hb hby d18_7) rfl rfl ?_
    show Steps p.tables e below (T2.setTop (mkF m 8 #[.val (.ref o0), .val (.long key), .second, .val (.long val), .second, .unset, .unset] [(.ref o0)])) t
    refine XS.aloadN X2.here hx rfl (hb hby d18_8) rfl rfl ?_
    exact k
  refine OFin.go S3 ?_
  obtain ⟨T4, X4, e4, st4⟩ := getF X2 hx hZ hown (host := "") (Or.inl (hw _ (List.mem_of_getElem? (i := 20) rfl))) Via.refl e2 Fk (g := (mkF m 9 #[.val (.ref o0), .val (.long key), .second, .val (.long val), .second, .unset, .unset] [(.ref o0), (.ref o0)])) rfl rfl (hb hby d18_9)
  refine OFin.go st4 ?_
  show OFin p e below _ (T4.setTop (mkF m 12 #[.val (.ref o0), .val (.long key), .second, .val (.long val), .second, .unset, .unset] [(.ref ka), (.ref o0)]))
  have S5 : ∀ t, Steps p.tables e below (T4.setTop (mkF m 13 #[.val (.ref o0), .val (.long key), .second, .val (.long val), .second, .unset, .unset] [(.int (16 : Int32)), (.ref o0)])) t → Steps p.tables e below (T4.setTop (mkF m 12 #[.val (.ref o0), .val (.long key), .second, .val (.long val), .second, .unset, .unset] [(.ref ka), (.ref o0)])) t := by
    intro t k
    show Steps p.tables e below (T4.setTop (mkF m 12 #[.val (.ref o0), .val (.long key), .second, .val (.long val), .second, .unset, .unset] [(.ref ka), (.ref o0)])) t
    refine alen X4 hx hZ e4 Va (z := (16 : Int32)) rfl (g := (mkF m 12 #[.val (.ref o0), .val (.long key), .second, .val (.long val), .second, .unset, .unset] [(.ref ka), (.ref o0)])) rfl rfl (hb hby d18_12) ?_
    exact k
  refine OFin.go S5 ?_
  obtain ⟨T6, h6, k6, X6, e6, E6, A6, st6⟩ := newP X4 hx hZ (hw _ (List.mem_of_getElem? (i := 19) rfl)) e4 (g := (mkF m 13 #[.val (.ref o0), .val (.long key), .second, .val (.long val), .second, .unset, .unset] [(.int (16 : Int32)), (.ref o0)])) rfl (hb hby d18_13) rfl (by decide) (cap := 16) (by decide) (by decide) (Nat.le_of_ble_eq_true rfl) (Nat.le_of_ble_eq_true rfl)
  obtain ⟨b6, g6⟩ : ∃ z, z = h0.size := ⟨_, rfl⟩
  rw [← g6] at A6 st6
  have q7 : o0 ≠ b6 := up_lt E0.lt g6
  have q8 : ka ≠ b6 := up_lt Va.lt g6
  have ge6 : n0 ≤ b6 := Nat.le_trans Z0 (Nat.le_of_eq g6.symm)
  have Z6 : n0 ≤ h6.size := Nat.le_trans Z0 E6.1
  have sz6 : h0.size ≤ b6 := Nat.le_trans K0.1 (Nat.le_of_eq g6.symm)
  have K6 := Keep.ext K0 E6
  have V6 : Ara Z h6 b6 .long 16 (fun _ => defaultValue .long) := Ara.new A6 rfl
  refine OFin.go st6 ?_
  show OFin p e below _ (T6.setTop (mkF m 15 #[.val (.ref o0), .val (.long key), .second, .val (.long val), .second, .unset, .unset] [(.ref b6), (.ref o0)]))
  have F9 := Fv.ext E6
  have F10 := E0.ext E6
  obtain ⟨T11, h11, X11, e11, W11, st11⟩ := putF X6 hx hZ hown (host := "") (Or.inl (hw _ (List.mem_of_getElem? (i := 76) rfl))) Via.refl e6 F9 F10 (Or.inl (hw _ (List.mem_of_getElem? (i := 77) rfl))) (hw _ (List.mem_of_getElem? (i := 13) rfl)) (ty := (.array .long)) (by decide) rfl rfl (g := (mkF m 15 #[.val (.ref o0), .val (.long key), .second, .val (.long val), .second, .unset, .unset] [(.ref b6), (.ref o0)])) rfl rfl (hb hby d18_15)
  have Fw11 := F9.same W11
  have N11 := Fr.snoc X11 N0 geo
  have Z11 : n0 ≤ h11.size := Nat.le_trans Z6 (wr_le W11)
  have K11 := Keep.wr K6 W11 (Or.inl (List.mem_of_getElem? (i := 0) rfl))
  refine OFin.go st11 ?_
  show OFin p e below _ (T11.setTop (mkF m 18 #[.val (.ref o0), .val (.long key), .second, .val (.long val), .second, .unset, .unset] []))
  have S12 : ∀ t, Steps p.tables e below (T11.setTop (mkF m 20 #[.val (.ref o0), .val (.long key), .second, .val (.long val), .second, .unset, .unset] [(.long key), (.ref o0)])) t → Steps p.tables e below (T11.setTop (mkF m 18 #[.val (.ref o0), .val (.long key), .second, .val (.long val), .second, .unset, .unset] [])) t := by
    intro t k
    show Steps p.tables e below (T11.setTop (mkF m 18 #[.val (.ref o0), .val (.long key), .second, .val (.long val), .second, .unset, .unset] [])) t
    refine XS.aloadN X11.here hx rfl (hb hby d18_18) rfl rfl ?_
    show Steps p.tables e below (T11.setTop (mkF m 19 #[.val (.ref o0), .val (.long key), .second, .val (.long val), .second, .unset, .unset] [(.ref o0)])) t
    refine XS.lloadN X11.here hx rfl (hb hby d18_19) rfl ?_
    exact k
  refine OFin.go S12 ?_
  have F14 := Fk.ext E6
  have F15 := F14.other W11 (Or.inr (slot_ne (Or.inl (hw _ (List.mem_of_getElem? (i := 21) rfl))) (Or.inl (hw _ (List.mem_of_getElem? (i := 77) rfl))) (by decide) (t := (.array .long)) (t' := (.array .long)) (by decide) (by decide)))
  have F16 := Va.ext E6
  have F17 := F16.other W11 (Ne.symm nok)
  have F18 := F10.wr W11
  have F19 := Fs.ext E6
  have F20 := F19.other W11 (Or.inr (slot_ne (Or.inl (hw _ (List.mem_of_getElem? (i := 28) rfl))) (Or.inl (hw _ (List.mem_of_getElem? (i := 77) rfl))) (by decide) (t := .int) (t' := (.array .long)) (by decide) (by decide)))
  obtain ⟨_, T13, Lc13, X13, hQ13, st13⟩ := privQ X11 hx hZ (y := (⟨"com/example/clockwrap/clockwrap/store/LongTable$Part", "slot", "(J)I"⟩ : MethodName)) hown (hw _ (List.mem_of_getElem? (i := 53) rfl)) (hw _ (List.mem_of_getElem? (i := 54) rfl)) (hw _ (List.mem_of_getElem? (i := 14) rfl)) (hw _ (List.mem_of_getElem? (i := 56) rfl)) (hw _ (List.mem_of_getElem? (i := 55) rfl)) (hw _ (List.mem_of_getElem? (i := 13) rfl)) (by decide) F18 (argsL := [(.long key)]) (rest := []) (rm10 l Z a0 hw [] o0 key ka kf h11 n0 Z11 F18 F20 F15 F17 (hP.free (by omega))) (W := 0) (by decide) (by decide) e11 (g := (mkF m 20 #[.val (.ref o0), .val (.long key), .second, .val (.long val), .second, .unset, .unset] [(.long key), (.ref o0)])) rfl (by rw [hml]; rfl) (lenOf pd_1 rfl) rfl (by show 2 * 0 + _ ≤ _; exact Nat.le_of_eq rfl) (hb hby d18_20) (Nat.le_of_ble_eq_true rfl) (Nat.le_of_ble_eq_true rfl)
  obtain ⟨sl, rfl, N13q, e13, hs0, hfn⟩ := hQ13
  have N13 := Fr.app N11 N13q
  refine OFin.go st13 ?_
  show OFin p e below _ (T13.setTop (mkF m 23 #[.val (.ref o0), .val (.long key), .second, .val (.long val), .second, .unset, .unset] [(.int sl)]))
  have S21 : ∀ t, Steps p.tables e below (T13.setTop (mkF m 26 #[.val (.ref o0), .val (.long key), .second, .val (.long val), .second, .val (.int sl), .unset] [(.ref o0)])) t → Steps p.tables e below (T13.setTop (mkF m 23 #[.val (.ref o0), .val (.long key), .second, .val (.long val), .second, .unset, .unset] [(.int sl)])) t := by
    intro t k
    show Steps p.tables e below (T13.setTop (mkF m 23 #[.val (.ref o0), .val (.long key), .second, .val (.long val), .second, .unset, .unset] [(.int sl)])) t
    refine XS.istore X13.here hx rfl (hb hby d18_23) rfl (l' := #[.val (.ref o0), .val (.long key), .second, .val (.long val), .second, .val (.int sl), .unset]) rfl ?_
    show Steps p.tables e below (T13.setTop (mkF m 25 #[.val (.ref o0), .val (.long key), .second, .val (.long val), .second, .val (.int sl), .unset] [])) t
    refine XS.aloadN X13.here hx rfl (hb hby d18_25) rfl rfl ?_
    exact k
  refine OFin.go S21 ?_
  obtain ⟨T22, X22, e22, st22⟩ := getF X13 hx hZ hown (host := "") (Or.inl (hw _ (List.mem_of_getElem? (i := 20) rfl))) Via.refl e13 F15 (g := (mkF m 26 #[.val (.ref o0), .val (.long key), .second, .val (.long val), .second, .val (.int sl), .unset] [(.ref o0)])) rfl rfl (hb hby d18_26)
  refine OFin.go st22 ?_
  show OFin p e below _ (T22.setTop (mkF m 29 #[.val (.ref o0), .val (.long key), .second, .val (.long val), .second, .val (.int sl), .unset] [(.ref ka)]))
  have S23 : ∀ t, Steps p.tables e below (T22.setTop (mkF m 34 #[.val (.ref o0), .val (.long key), .second, .val (.long val), .second, .val (.int sl), .unset] [(.int (lcmpW (kf sl.toNatClampNeg) (0 : Int64)))])) t → Steps p.tables e below (T22.setTop (mkF m 29 #[.val (.ref o0), .val (.long key), .second, .val (.long val), .second, .val (.int sl), .unset] [(.ref ka)])) t := by
    intro t k
    show Steps p.tables e below (T22.setTop (mkF m 29 #[.val (.ref o0), .val (.long key), .second, .val (.long val), .second, .val (.int sl), .unset] [(.ref ka)])) t
    refine XS.iload X22.here hx rfl (hb hby d18_29) rfl ?_
    show Steps p.tables e below (T22.setTop (mkF m 31 #[.val (.ref o0), .val (.long key), .second, .val (.long val), .second, .val (.int sl), .unset] [(.int sl), (.ref ka)])) t
    refine rdJ X22 hx hZ e22 F17 (i := sl.toNatClampNeg) hs0 rfl (own_fls hfn) (x := (.long (kf sl.toNatClampNeg))) rfl (g := (mkF m 31 #[.val (.ref o0), .val (.long key), .second, .val (.long val), .second, .val (.int sl), .unset] [(.int sl), (.ref ka)])) rfl rfl (hb hby d18_31) ?_
    show Steps p.tables e below (T22.setTop (mkF m 32 #[.val (.ref o0), .val (.long key), .second, .val (.long val), .second, .val (.int sl), .unset] [(.long (kf sl.toNatClampNeg))])) t
    refine XS.lconst X22.here hx rfl (hb hby d18_32) ?_
    show Steps p.tables e below (T22.setTop (mkF m 33 #[.val (.ref o0), .val (.long key), .second, .val (.long val), .second, .val (.int sl), .unset] [(.long (0 : Int64)), (.long (kf sl.toNatClampNeg))])) t
    refine XS.lcmp X22.here hx rfl (hb hby d18_33) rfl ?_
    exact k
  refine OFin.go S23 ?_
  have J24 : ∀ t, Steps p.tables e below (T22.setTop (mkF m 42 #[.val (.ref o0), .val (.long key), .second, .val (.long val), .second, .val (.int sl), .unset] [(.int (bi ((kf sl.toNatClampNeg) = (0 : Int64))))])) t → Steps p.tables e below (T22.setTop (mkF m 34 #[.val (.ref o0), .val (.long key), .second, .val (.long val), .second, .val (.int sl), .unset] [(.int (lcmpW (kf sl.toNatClampNeg) (0 : Int64)))])) t := by
    intro t k
    show Steps p.tables e below (T22.setTop (mkF m 34 #[.val (.ref o0), .val (.long key), .second, .val (.long val), .second, .val (.int sl), .unset] [(.int (lcmpW (kf sl.toNatClampNeg) (0 : Int64)))])) t
    by_cases h25 : ((kf sl.toNatClampNeg) = (0 : Int64))
    · refine XS.ifNo X22.here hx rfl (hb hby d18_34) rfl (lc_ne_f h25) ?_
      show Steps p.tables e below (T22.setTop (mkF m 37 #[.val (.ref o0), .val (.long key), .second, .val (.long val), .second, .val (.int sl), .unset] [])) t
      refine XS.iconst X22.here hx rfl (hb hby d18_37) ?_
      show Steps p.tables e below (T22.setTop (mkF m 38 #[.val (.ref o0), .val (.long key), .second, .val (.long val), .second, .val (.int sl), .unset] [(.int (1 : Int32))])) t
      refine XS.goto X22.here hx rfl (pc0 := 38) (pc' := 42) rfl (hb hby d18_38) (by decide) (by decide) ?_
      show Steps p.tables e below (T22.setTop (mkF m 42 #[.val (.ref o0), .val (.long key), .second, .val (.long val), .second, .val (.int sl), .unset] [(.int (1 : Int32))])) t
      exact (castTop (congrArg (fun zq_ => (mkF m 42 #[.val (.ref o0), .val (.long key), .second, .val (.long val), .second, .val (.int sl), .unset] [(.int zq_)])) (bi_t h25).symm) k)
    · refine XS.ifYes X22.here hx rfl (pc0 := 34) (pc' := 41) rfl (hb hby d18_34) rfl (lc_ne_t h25) (by decide) (by decide) ?_
      show Steps p.tables e below (T22.setTop (mkF m 41 #[.val (.ref o0), .val (.long key), .second, .val (.long val), .second, .val (.int sl), .unset] [])) t
      refine XS.iconst X22.here hx rfl (hb hby d18_41) ?_
      show Steps p.tables e below (T22.setTop (mkF m 42 #[.val (.ref o0), .val (.long key), .second, .val (.long val), .second, .val (.int sl), .unset] [(.int (0 : Int32))])) t
      exact (castTop (congrArg (fun zq_ => (mkF m 42 #[.val (.ref o0), .val (.long key), .second, .val (.long val), .second, .val (.int sl), .unset] [(.int zq_)])) (bi_f h25).symm) k)
  refine OFin.go J24 ?_
  have S26 : ∀ t, Steps p.tables e below (T22.setTop (mkF m 46 #[.val (.ref o0), .val (.long key), .second, .val (.long val), .second, .val (.int sl), .val (.int (bi ((kf sl.toNatClampNeg) = (0 : Int64))))] [(.int (bi ((kf sl.toNatClampNeg) = (0 : Int64))))])) t → Steps p.tables e below (T22.setTop (mkF m 42 #[.val (.ref o0), .val (.long key), .second, .val (.long val), .second, .val (.int sl), .unset] [(.int (bi ((kf sl.toNatClampNeg) = (0 : Int64))))])) t := by
    intro t k
    show Steps p.tables e below (T22.setTop (mkF m 42 #[.val (.ref o0), .val (.long key), .second, .val (.long val), .second, .val (.int sl), .unset] [(.int (bi ((kf sl.toNatClampNeg) = (0 : Int64))))])) t
    refine XS.istore X22.here hx rfl (hb hby d18_42) rfl (l' := #[.val (.ref o0), .val (.long key), .second, .val (.long val), .second, .val (.int sl), .val (.int (bi ((kf sl.toNatClampNeg) = (0 : Int64))))]) rfl ?_
    show Steps p.tables e below (T22.setTop (mkF m 44 #[.val (.ref o0), .val (.long key), .second, .val (.long val), .second, .val (.int sl), .val (.int (bi ((kf sl.toNatClampNeg) = (0 : Int64))))] [])) t
    refine XS.iload X22.here hx rfl (hb hby d18_44) rfl ?_
    exact k
  refine OFin.go S26 ?_
  by_cases h27 : ((kf sl.toNatClampNeg) = (0 : Int64))
  · -- pc 46: ((kf sl.toNatClampNeg) = (0 : Int64))
    have S28 : ∀ t, Steps p.tables e below (T22.setTop (mkF m 49 #[.val (.ref o0), .val (.long key), .second, .val (.long val), .second, .val (.int sl), .val (.int (bi ((kf sl.toNatClampNeg) = (0 : Int64))))] [])) t → Steps p.tables e below (T22.setTop (mkF m 46 #[.val (.ref o0), .val (.long key), .second, .val (.long val), .second, .val (.int sl), .val (.int (bi ((kf sl.toNatClampNeg) = (0 : Int64))))] [(.int (bi ((kf sl.toNatClampNeg) = (0 : Int64))))])) t := by
      intro t k
      show Steps p.tables e below (T22.setTop (mkF m 46 #[.val (.ref o0), .val (.long key), .second, .val (.long val), .second, .val (.int sl), .val (.int (bi ((kf sl.toNatClampNeg) = (0 : Int64))))] [(.int (bi ((kf sl.toNatClampNeg) = (0 : Int64))))])) t
      refine XS.ifNo X22.here hx rfl (hb hby d18_46) rfl (bi_eq_f h27) ?_
      exact k
    refine OFin.go S28 ?_
    have S29 : ∀ t, Steps p.tables e below (T22.setTop (mkF m 54 #[.val (.ref o0), .val (.long key), .second, .val (.long val), .second, .val (.int sl), .val (.int (bi ((kf sl.toNatClampNeg) = (0 : Int64))))] [(.long val), (.long key), (.int sl), (.ref o0)])) t → Steps p.tables e below (T22.setTop (mkF m 49 #[.val (.ref o0), .val (.long key), .second, .val (.long val), .second, .val (.int sl), .val (.int (bi ((kf sl.toNatClampNeg) = (0 : Int64))))] [])) t := by
      intro t k
      show Steps p.tables e below (T22.setTop (mkF m 49 #[.val (.ref o0), .val (.long key), .second, .val (.long val), .second, .val (.int sl), .val (.int (bi ((kf sl.toNatClampNeg) = (0 : Int64))))] [])) t
      refine XS.aloadN X22.here hx rfl (hb hby d18_49) rfl rfl ?_
      show Steps p.tables e below (T22.setTop (mkF m 50 #[.val (.ref o0), .val (.long key), .second, .val (.long val), .second, .val (.int sl), .val (.int (bi ((kf sl.toNatClampNeg) = (0 : Int64))))] [(.ref o0)])) t
      refine XS.iload X22.here hx rfl (hb hby d18_50) rfl ?_
      show Steps p.tables e below (T22.setTop (mkF m 52 #[.val (.ref o0), .val (.long key), .second, .val (.long val), .second, .val (.int sl), .val (.int (bi ((kf sl.toNatClampNeg) = (0 : Int64))))] [(.int sl), (.ref o0)])) t
      refine XS.lloadN X22.here hx rfl (hb hby d18_52) rfl ?_
      show Steps p.tables e below (T22.setTop (mkF m 53 #[.val (.ref o0), .val (.long key), .second, .val (.long val), .second, .val (.int sl), .val (.int (bi ((kf sl.toNatClampNeg) = (0 : Int64))))] [(.long key), (.int sl), (.ref o0)])) t
      refine XS.lloadN X22.here hx rfl (hb hby d18_53) rfl ?_
      exact k
    refine OFin.go S29 ?_
    have F31 := Ft.ext E6
    have F32 := F31.other W11 (Or.inr (slot_ne (Or.inl (hw _ (List.mem_of_getElem? (i := 79) rfl))) (Or.inl (hw _ (List.mem_of_getElem? (i := 77) rfl))) (by decide) (t := .int) (t' := (.array .long)) (by decide) (by decide)))
    have F33 := V6.other W11 (Ne.symm q7)
    obtain ⟨_, T30, Lc30, X30, hQ30, st30⟩ := privQ X22 hx hZ (y := (⟨"com/example/clockwrap/clockwrap/store/LongTable$Part", "place", "(IJJ)V"⟩ : MethodName)) hown (hw _ (List.mem_of_getElem? (i := 72) rfl)) (hw _ (List.mem_of_getElem? (i := 73) rfl)) (hw _ (List.mem_of_getElem? (i := 14) rfl)) (hw _ (List.mem_of_getElem? (i := 75) rfl)) (hw _ (List.mem_of_getElem? (i := 74) rfl)) (hw _ (List.mem_of_getElem? (i := 13) rfl)) (by decide) F18 (argsL := [(.int sl), (.long key), (.long val)]) (rest := []) (rm14_v l Z a0 hw [] o0 sl key val ka b6 kf (fun _ => (0 : Int64)) tk h11 n0 Z11 geo gek nok ge6 q7 q8 F18 F15 Fw11 F20 F32 F17 F33 hs0 (own_fls hfn) (own_t hP hm10).1) (W := 0) (by decide) (by decide) e22 (g := (mkF m 54 #[.val (.ref o0), .val (.long key), .second, .val (.long val), .second, .val (.int sl), .val (.int (bi ((kf sl.toNatClampNeg) = (0 : Int64))))] [(.long val), (.long key), (.int sl), (.ref o0)])) rfl (by rw [hml]; rfl) (lenOf pd_2 rfl) rfl (by show 2 * 0 + _ ≤ _; exact Nat.le_of_eq rfl) (hb hby d18_54) (Nat.le_of_ble_eq_true rfl) (Nat.le_of_ble_eq_true rfl)
    obtain ⟨rfl, N30q, K30q, E30, Fk30, Fv30, Fs30, Ft30, Va30, Vv30⟩ := hQ30
    have Z30 : n0 ≤ T30.heap.size := Nat.le_trans Z11 K30q.1
    have K30 := Keep.trans K11 K30q (allS (Or.inl (List.mem_of_getElem? (i := 0) rfl)) (allS (Or.inl (List.mem_of_getElem? (i := 1) rfl)) (allS (Or.inr sz6) all0)))
    have N30 := Fr.app N13 N30q
    refine OFin.go st30 ?_
    show OFin p e below _ (T30.setTop (mkF m 57 #[.val (.ref o0), .val (.long key), .second, .val (.long val), .second, .val (.int sl), .val (.int (bi ((kf sl.toNatClampNeg) = (0 : Int64))))] []))
    have S34 : ∀ t, Steps p.tables e below (T30.setTop (mkF m 70 #[.val (.ref o0), .val (.long key), .second, .val (.long val), .second, .val (.int sl), .val (.int (bi ((kf sl.toNatClampNeg) = (0 : Int64))))] [(.int (bi ((kf sl.toNatClampNeg) = (0 : Int64))))])) t → Steps p.tables e below (T30.setTop (mkF m 57 #[.val (.ref o0), .val (.long key), .second, .val (.long val), .second, .val (.int sl), .val (.int (bi ((kf sl.toNatClampNeg) = (0 : Int64))))] [])) t := by
      intro t k
      show Steps p.tables e below (T30.setTop (mkF m 57 #[.val (.ref o0), .val (.long key), .second, .val (.long val), .second, .val (.int sl), .val (.int (bi ((kf sl.toNatClampNeg) = (0 : Int64))))] [])) t
      refine XS.goto X30.here hx rfl (pc0 := 57) (pc' := 68) rfl (hb hby d18_57) (by decide) (by decide) ?_
      show Steps p.tables e below (T30.setTop (mkF m 68 #[.val (.ref o0), .val (.long key), .second, .val (.long val), .second, .val (.int sl), .val (.int (bi ((kf sl.toNatClampNeg) = (0 : Int64))))] [])) t
      refine XS.iload X30.here hx rfl (hb hby d18_68) rfl ?_
      exact k
    refine OFin.go S34 ?_
    exact finZ X30 hx Bd.notSynchronized (t := .boolean) Bd.returns (by simp) (hb hby d18_70) (nar_bi _) (by decide) (by decide) (by exact ⟨_, b6, upd kf sl.toNatClampNeg key, upd (fun _ => (0 : Int64)) sl.toNatClampNeg val, tk + 1, rfl, N30, K30, E30, Fk30, Fv30, Fs30, Ft30, Va30, Vv30, sz6, q7, q8, (own_addNew (val := val) hP (by omega) hk hfn h27 (own_t hP hm10).2.1).1, (own_addNew (val := val) hP (by omega) hk hfn h27 (own_t hP hm10).2.1).2.2⟩)
  · -- pc 46: not ((kf sl.toNatClampNeg) = (0 : Int64))
    have S35 : ∀ t, Steps p.tables e below (T22.setTop (mkF m 60 #[.val (.ref o0), .val (.long key), .second, .val (.long val), .second, .val (.int sl), .val (.int (bi ((kf sl.toNatClampNeg) = (0 : Int64))))] [])) t → Steps p.tables e below (T22.setTop (mkF m 46 #[.val (.ref o0), .val (.long key), .second, .val (.long val), .second, .val (.int sl), .val (.int (bi ((kf sl.toNatClampNeg) = (0 : Int64))))] [(.int (bi ((kf sl.toNatClampNeg) = (0 : Int64))))])) t := by
      intro t k
      show Steps p.tables e below (T22.setTop (mkF m 46 #[.val (.ref o0), .val (.long key), .second, .val (.long val), .second, .val (.int sl), .val (.int (bi ((kf sl.toNatClampNeg) = (0 : Int64))))] [(.int (bi ((kf sl.toNatClampNeg) = (0 : Int64))))])) t
      refine XS.ifYes X22.here hx rfl (pc0 := 46) (pc' := 60) rfl (hb hby d18_46) rfl (bi_eq_t h27) (by decide) (by decide) ?_
      exact k
    refine OFin.go S35 ?_
    have S36 : ∀ t, Steps p.tables e below (T22.setTop (mkF m 61 #[.val (.ref o0), .val (.long key), .second, .val (.long val), .second, .val (.int sl), .val (.int (bi ((kf sl.toNatClampNeg) = (0 : Int64))))] [(.ref o0)])) t → Steps p.tables e below (T22.setTop (mkF m 60 #[.val (.ref o0), .val (.long key), .second, .val (.long val), .second, .val (.int sl), .val (.int (bi ((kf sl.toNatClampNeg) = (0 : Int64))))] [])) t := by
      intro t k
      show Steps p.tables e below (T22.setTop (mkF m 60 #[.val (.ref o0), .val (.long key), .second, .val (.long val), .second, .val (.int sl), .val (.int (bi ((kf sl.toNatClampNeg) = (0 : Int64))))] [])) t
      refine XS.aloadN X22.here hx rfl (hb hby d18_60) rfl rfl ?_
      exact k
    refine OFin.go S36 ?_
    obtain ⟨T37, X37, e37, st37⟩ := getF X22 hx hZ hown (host := "") (Or.inl (hw _ (List.mem_of_getElem? (i := 76) rfl))) Via.refl e22 Fw11 (g := (mkF m 61 #[.val (.ref o0), .val (.long key), .second, .val (.long val), .second, .val (.int sl), .val (.int (bi ((kf sl.toNatClampNeg) = (0 : Int64))))] [(.ref o0)])) rfl rfl (hb hby d18_61)
    refine OFin.go st37 ?_
    show OFin p e below _ (T37.setTop (mkF m 64 #[.val (.ref o0), .val (.long key), .second, .val (.long val), .second, .val (.int sl), .val (.int (bi ((kf sl.toNatClampNeg) = (0 : Int64))))] [(.ref b6)]))
    have S38 : ∀ t, Steps p.tables e below (T37.setTop (mkF m 67 #[.val (.ref o0), .val (.long key), .second, .val (.long val), .second, .val (.int sl), .val (.int (bi ((kf sl.toNatClampNeg) = (0 : Int64))))] [(.long val), (.int sl), (.ref b6)])) t → Steps p.tables e below (T37.setTop (mkF m 64 #[.val (.ref o0), .val (.long key), .second, .val (.long val), .second, .val (.int sl), .val (.int (bi ((kf sl.toNatClampNeg) = (0 : Int64))))] [(.ref b6)])) t := by
      intro t k
      show Steps p.tables e below (T37.setTop (mkF m 64 #[.val (.ref o0), .val (.long key), .second, .val (.long val), .second, .val (.int sl), .val (.int (bi ((kf sl.toNatClampNeg) = (0 : Int64))))] [(.ref b6)])) t
      refine XS.iload X37.here hx rfl (hb hby d18_64) rfl ?_
      show Steps p.tables e below (T37.setTop (mkF m 66 #[.val (.ref o0), .val (.long key), .second, .val (.long val), .second, .val (.int sl), .val (.int (bi ((kf sl.toNatClampNeg) = (0 : Int64))))] [(.int sl), (.ref b6)])) t
      refine XS.lloadN X37.here hx rfl (hb hby d18_66) rfl ?_
      exact k
    refine OFin.go S38 ?_
    have F39 := V6.other W11 (Ne.symm q7)
    obtain ⟨T40, h40, X40, e40, W40, st40⟩ := wrJ X37 hx hZ e37 F39 (i := sl.toNatClampNeg) hs0 rfl (own_fls hfn) (g := (mkF m 67 #[.val (.ref o0), .val (.long key), .second, .val (.long val), .second, .val (.int sl), .val (.int (bi ((kf sl.toNatClampNeg) = (0 : Int64))))] [(.long val), (.int sl), (.ref b6)])) rfl rfl (hb hby d18_67)
    have V40 := F39.set W40
    have N40 := Fr.snoc X40 N13 ge6
    have Z40 : n0 ≤ h40.size := Nat.le_trans Z11 (wr_le W40)
    have K40 := Keep.wr K11 W40 (Or.inr sz6)
    refine OFin.go st40 ?_
    show OFin p e below _ (T40.setTop (mkF m 68 #[.val (.ref o0), .val (.long key), .second, .val (.long val), .second, .val (.int sl), .val (.int (bi ((kf sl.toNatClampNeg) = (0 : Int64))))] []))
    have S41 : ∀ t, Steps p.tables e below (T40.setTop (mkF m 70 #[.val (.ref o0), .val (.long key), .second, .val (.long val), .second, .val (.int sl), .val (.int (bi ((kf sl.toNatClampNeg) = (0 : Int64))))] [(.int (bi ((kf sl.toNatClampNeg) = (0 : Int64))))])) t → Steps p.tables e below (T40.setTop (mkF m 68 #[.val (.ref o0), .val (.long key), .second, .val (.long val), .second, .val (.int sl), .val (.int (bi ((kf sl.toNatClampNeg) = (0 : Int64))))] [])) t := by
      intro t k
      show Steps p.tables e below (T40.setTop (mkF m 68 #[.val (.ref o0), .val (.long key), .second, .val (.long val), .second, .val (.int sl), .val (.int (bi ((kf sl.toNatClampNeg) = (0 : Int64))))] [])) t
      refine XS.iload X40.here hx rfl (hb hby d18_68) rfl ?_
      exact k
    refine OFin.go S41 ?_
    have F42 := Fw11.other W40 (Or.inl q7)
    have F43 := F18.wr W40
    have F44 := F15.other W40 (Or.inl q7)
    have F45 := F20.other W40 (Or.inl q7)
    have F46 := Ft.ext E6
    have F47 := F46.other W11 (Or.inr (slot_ne (Or.inl (hw _ (List.mem_of_getElem? (i := 79) rfl))) (Or.inl (hw _ (List.mem_of_getElem? (i := 77) rfl))) (by decide) (t := .int) (t' := (.array .long)) (by decide) (by decide)))
    have F48 := F47.other W40 (Or.inl q7)
    have F49 := F17.other W40 q8
    exact finZ X40 hx Bd.notSynchronized (t := .boolean) Bd.returns (by simp) (hb hby d18_70) (nar_bi _) (by decide) (by decide) (by rw [e40]; exact ⟨_, b6, kf, upd (fun _ => (0 : Int64)) sl.toNatClampNeg val, tk, rfl, N40, K40, F43, F44, F42, F45, F48, F49, (V40.congr (fun i _ => own_updl (fun _ => (0 : Int64)) _ _ i)), sz6, q7, q8, ((own_setOld (val := val) hP hk (own_fls hfn) ((own_lk hfn).resolve_left h27)).1).mono (by omega), (own_setOld (val := val) hP hk (own_fls hfn) ((own_lk hfn).resolve_left h27)).2⟩)
theorem ef_rm16_n (m : MethodId) (o0 : Addr) (key : Int64) : entryFrame m #[(.ref o0), (.long key)] 3 = mkF m 0 #[.val (.ref o0), .val (.long key), .second] [] := by first | (simp [entryFrame, mkF, argsToLocals, Value.category]; done) | rfl
def Q_rm16_n (Z : State) (o0 : Addr) (key : Int64) (ka : Addr) (kf vf : Nat → Int64) (tk : Int32) (mm : Nat) (h0 : Heap) (n0 : Nat) (v : Option Value) (h : Heap) (L : List Loc) : Prop := ∃ w' : Int64, v = some (.long w') ∧ Fr n0 L ∧ h = h0 ∧ (∀ w, In kf vf key w → w' = w) ∧ ((∀ w, ¬ In kf vf key w) → w' = 0)
theorem d16_0 : decode prog_33_method_5_code 0 = .ok (.aload_n 0, 1) := by decide +kernel
theorem d16_1 : decode prog_33_method_5_code 1 = .ok (.getfield 35, 3) := by decide +kernel
theorem d16_4 : decode prog_33_method_5_code 4 = .ok (.ifnonnull 7, 3) := by decide +kernel
theorem d16_7 : decode prog_33_method_5_code 7 = .ok (.lconst 0, 1) := by decide +kernel
theorem d16_8 : decode prog_33_method_5_code 8 = .ok (.goto 13, 3) := by decide +kernel
theorem d16_21 : decode prog_33_method_5_code 21 = .ok (.lreturn, 1) := by decide +kernel
set_option maxRecDepth 65536 in
set_option maxHeartbeats 40000000 in
theorem rm16_n (l : Launch) (Z : State) (a0 : Array Value) (hw : ∀ d ∈ tables_1, d.before a0 Z = true) (ws : List Jvm.Cond) (o0 : Addr) (key : Int64) (ka : Addr) (kf vf : Nat → Int64) (tk : Int32) (mm : Nat) (h0 : Heap) (n0 : Nat) (Z0 : n0 ≤ h0.size) (geo : n0 ≤ o0) (gek : n0 ≤ ka) (nok : o0 ≠ ka) (E0 : Exa Z h0 o0 "com/example/clockwrap/clockwrap/store/LongTable$Part") (Fk : Fld Z h0 o0 "com/example/clockwrap/clockwrap/store/LongTable$Part" "keys" "[J" (.ref ka)) (Fv : Fld Z h0 o0 "com/example/clockwrap/clockwrap/store/LongTable$Part" "values" "[J" .null) (Fs : Fld Z h0 o0 "com/example/clockwrap/clockwrap/store/LongTable$Part" "shift" "I" (.int (60 : Int32))) (Ft : Fld Z h0 o0 "com/example/clockwrap/clockwrap/store/LongTable$Part" "taken" "I" (.int tk)) (Va : Ara Z h0 ka .long 16 (fun i => .long (kf i))) (hP : PI hm kf vf tk mm) (hm10 : mm < 10) (hk : key ≠ 0) (hv0 : ∀ i, vf i = 0) :
    MetFree l (⟨"com/example/clockwrap/clockwrap/store/LongTable$Part", "get", "(J)J"⟩ : MethodName) (head1 (Jvm.Cond.code (⟨"com/example/clockwrap/clockwrap/store/LongTable$Part", "get", "(J)J"⟩ : MethodName) prog_33_method_5_code 3 (some .long) :: ws) ({ frames := 2, cells := 0, slots := 0, locals := 40 } : Room)) (fun a U => a = #[(.ref o0), (.long key)] ∧ Z.Warmed39 U.vm ∧ U.heap = h0) (fun _ _ _ _ _ => True) (fun _ U o U' => ∃ v L, o = .returned v ∧ (Q_rm16_n Z o0 key ka kf vf tk mm h0 n0) v U'.heap L ∧ FrameEnd U o U' L ({ frames := 2, cells := 0, slots := 0, locals := 40 } : Room).cells ({ frames := 2, cells := 0, slots := 0, locals := 40 } : Room).slots) := by
  refine MetFree.of_bodySF (plainFor_of_name pn_1) hisR ?_
  intro p e s m args below meth c s₁ Bd hml0 hP hK
  obtain ⟨rfl, hZ, hh⟩ := hP
  have hx := Bd.exec
  have hby := Bd.bytes
  have hml : c.maxLocals = 3 := hml0
  have hown : s.vm.findClass "com/example/clockwrap/clockwrap/store/LongTable$Part" = some m.cls := findClass_of_methodNamed Bd.named
  have hnm := (name_of_methodNamed Bd.named Bd.method).1
  have X0 : Stand p l e ({ frames := 2, cells := 0, slots := 0, locals := 40 } : Room) s m #[(.ref o0), (.long key)] below meth c s₁ [] 0 0 := Stand.of_body Bd
  have e0 : s₁.heap = h0 := by rw [← hh, Bd.state]; rfl
  have N0 := Fr.nil n0
  show OFin p e below (ORet (Q_rm16_n Z o0 key ka kf vf tk mm h0 n0) s ({ frames := 2, cells := 0, slots := 0, locals := 40 } : Room).cells ({ frames := 2, cells := 0, slots := 0, locals := 40 } : Room).slots) (s₁.setTop (entryFrame m #[(.ref o0), (.long key)] 3))
  refine OFin.go (fun t k => castTop (ef_rm16_n m o0 key) k) ?_
  have K0 := Keep.refl h0 [o0, ka]
  show OFin p e below (ORet (Q_rm16_n Z o0 key ka kf vf tk mm h0 n0) s ({ frames := 2, cells := 0, slots := 0, locals := 40 } : Room).cells ({ frames := 2, cells := 0, slots := 0, locals := 40 } : Room).slots) (s₁.setTop (mkF m 0 #[.val (.ref o0), .val (.long key), .second] []))
  have S1 : ∀ t, Steps p.tables e below (s₁.setTop (mkF m 1 #[.val (.ref o0), .val (.long key), .second] [(.ref o0)])) t → Steps p.tables e below (s₁.setTop (mkF m 0 #[.val (.ref o0), .val (.long key), .second] [])) t := by
    intro t k
    show Steps p.tables e below (s₁.setTop (mkF m 0 #[.val (.ref o0), .val (.long key), .second] [])) t
    refine XS.aloadN X0.here hx rfl (hb hby d16_0) rfl rfl ?_
    exact k
  refine OFin.go S1 ?_
  obtain ⟨T2, X2, e2, st2⟩ := getF X0 hx hZ hown (host := "") (Or.inl (hw _ (List.mem_of_getElem? (i := 76) rfl))) Via.refl e0 Fv (g := (mkF m 1 #[.val (.ref o0), .val (.long key), .second] [(.ref o0)])) rfl rfl (hb hby d16_1)
  refine OFin.go st2 ?_
  show OFin p e below _ (T2.setTop (mkF m 4 #[.val (.ref o0), .val (.long key), .second] [.null]))
  refine OFin.go (fun t k => ?_ : ∀ t, Steps p.tables e below (T2.setTop (mkF m 7 #[.val (.ref o0), .val (.long key), .second] [])) t → Steps p.tables e below (T2.setTop (mkF m 4 #[.val (.ref o0), .val (.long key), .second] [.null])) t) ?_
  · show Steps p.tables e below (T2.setTop (mkF m 4 #[.val (.ref o0), .val (.long key), .second] [.null])) t
    refine XS.ifnonnullNo X2.here hx rfl (hb hby d16_4) rfl ?_
    exact k
  have S3 : ∀ t, Steps p.tables e below (T2.setTop (mkF m 21 #[.val (.ref o0), .val (.long key), .second] [(.long (0 : Int64))])) t → Steps p.tables e below (T2.setTop (mkF m 7 #[.val (.ref o0), .val (.long key), .second] [])) t := by
    intro t k
    show Steps p.tables e below (T2.setTop (mkF m 7 #[.val (.ref o0), .val (.long key), .second] [])) t
    refine XS.lconst X2.here hx rfl (hb hby d16_7) ?_
    show Steps p.tables e below (T2.setTop (mkF m 8 #[.val (.ref o0), .val (.long key), .second] [(.long (0 : Int64))])) t
    refine XS.goto X2.here hx rfl (pc0 := 8) (pc' := 21) rfl (hb hby d16_8) (by decide) (by decide) ?_
    exact k
  refine OFin.go S3 ?_
  exact finJ X2 hx Bd.notSynchronized Bd.returns (hb hby d16_21) (by decide) (by decide) (⟨(0 : Int64), rfl, N0, e2, fun w q => own_get0 hv0 q, fun _ => rfl⟩)
theorem ef_rm13_v (m : MethodId) (o0 : Addr) (key : Int64) : entryFrame m #[(.ref o0), (.long key)] 5 = mkF m 0 #[.val (.ref o0), .val (.long key), .second, .unset, .unset] [] := by first | (simp [entryFrame, mkF, argsToLocals, Value.category]; done) | rfl
def Q_rm13_v (Z : State) (o0 : Addr) (key : Int64) (ka va : Addr) (kf vf : Nat → Int64) (tk : Int32) (mm : Nat) (h0 : Heap) (n0 : Nat) (v : Option Value) (h : Heap) (L : List Loc) : Prop := ∃ (b : Int32) (kf' vf' : Nat → Int64) (tk' : Int32), v = some (.int b) ∧ Fr n0 L ∧ Keep h0 h [o0, ka, va] ∧ Exa Z h o0 "com/example/clockwrap/clockwrap/store/LongTable$Part" ∧ Fld Z h o0 "com/example/clockwrap/clockwrap/store/LongTable$Part" "keys" "[J" (.ref ka) ∧ Fld Z h o0 "com/example/clockwrap/clockwrap/store/LongTable$Part" "values" "[J" (.ref va) ∧ Fld Z h o0 "com/example/clockwrap/clockwrap/store/LongTable$Part" "shift" "I" (.int (60 : Int32)) ∧ Fld Z h o0 "com/example/clockwrap/clockwrap/store/LongTable$Part" "taken" "I" (.int tk') ∧ Ara Z h ka .long 16 (fun i => .long (kf' i)) ∧ Ara Z h va .long 16 (fun i => .long (vf' i)) ∧ PI hm kf' vf' tk' (mm + 1) ∧ (∀ kk vv, kk ≠ 0 → (In kf' vf' kk vv ↔ if kk = key then (vv = 0 ∧ ∀ v', ¬ In kf vf key v') ∨ In kf vf key vv else In kf vf kk vv)) ∧ ((∀ i, vf i = 0) → ∀ i, vf' i = 0)
set_option maxRecDepth 65536 in
set_option maxHeartbeats 40000000 in
theorem rm13_v (l : Launch) (Z : State) (a0 : Array Value) (hw : ∀ d ∈ tables_1, d.before a0 Z = true) (ws : List Jvm.Cond) (o0 : Addr) (key : Int64) (ka va : Addr) (kf vf : Nat → Int64) (tk : Int32) (mm : Nat) (h0 : Heap) (n0 : Nat) (Z0 : n0 ≤ h0.size) (geo : n0 ≤ o0) (gek : n0 ≤ ka) (nok : o0 ≠ ka) (gev : n0 ≤ va) (nov : o0 ≠ va) (nkv : ka ≠ va) (E0 : Exa Z h0 o0 "com/example/clockwrap/clockwrap/store/LongTable$Part") (Fk : Fld Z h0 o0 "com/example/clockwrap/clockwrap/store/LongTable$Part" "keys" "[J" (.ref ka)) (Fv : Fld Z h0 o0 "com/example/clockwrap/clockwrap/store/LongTable$Part" "values" "[J" (.ref va)) (Fs : Fld Z h0 o0 "com/example/clockwrap/clockwrap/store/LongTable$Part" "shift" "I" (.int (60 : Int32))) (Ft : Fld Z h0 o0 "com/example/clockwrap/clockwrap/store/LongTable$Part" "taken" "I" (.int tk)) (Va : Ara Z h0 ka .long 16 (fun i => .long (kf i))) (Vv : Ara Z h0 va .long 16 (fun i => .long (vf i))) (hP : PI hm kf vf tk mm) (hm10 : mm < 10) (hk : key ≠ 0) :
    MetFree l (⟨"com/example/clockwrap/clockwrap/store/LongTable$Part", "add", "(J)Z"⟩ : MethodName) (head1 (Jvm.Cond.code (⟨"com/example/clockwrap/clockwrap/store/LongTable$Part", "add", "(J)Z"⟩ : MethodName) prog_33_method_3_code 5 (some .boolean) :: ws) ({ frames := 2, cells := 0, slots := 0, locals := 40 } : Room)) (fun a U => a = #[(.ref o0), (.long key)] ∧ Z.Warmed39 U.vm ∧ U.heap = h0) (fun _ _ _ _ _ => True) (fun _ U o U' => ∃ v L, o = .returned v ∧ (Q_rm13_v Z o0 key ka va kf vf tk mm h0 n0) v U'.heap L ∧ FrameEnd U o U' L ({ frames := 2, cells := 0, slots := 0, locals := 40 } : Room).cells ({ frames := 2, cells := 0, slots := 0, locals := 40 } : Room).slots) := by
  refine MetFree.of_bodySF (plainFor_of_name pn_1) hisR ?_
  intro p e s m args below meth c s₁ Bd hml0 hP hK
  obtain ⟨rfl, hZ, hh⟩ := hP
  have hx := Bd.exec
  have hby := Bd.bytes
  have hml : c.maxLocals = 5 := hml0
  have hown : s.vm.findClass "com/example/clockwrap/clockwrap/store/LongTable$Part" = some m.cls := findClass_of_methodNamed Bd.named
  have hnm := (name_of_methodNamed Bd.named Bd.method).1
  have X0 : Stand p l e ({ frames := 2, cells := 0, slots := 0, locals := 40 } : Room) s m #[(.ref o0), (.long key)] below meth c s₁ [] 0 0 := Stand.of_body Bd
  have e0 : s₁.heap = h0 := by rw [← hh, Bd.state]; rfl
  have N0 := Fr.nil n0
  show OFin p e below (ORet (Q_rm13_v Z o0 key ka va kf vf tk mm h0 n0) s ({ frames := 2, cells := 0, slots := 0, locals := 40 } : Room).cells ({ frames := 2, cells := 0, slots := 0, locals := 40 } : Room).slots) (s₁.setTop (entryFrame m #[(.ref o0), (.long key)] 5))
  refine OFin.go (fun t k => castTop (ef_rm13_v m o0 key) k) ?_
  have K0 := Keep.refl h0 [o0, ka, va]
  show OFin p e below (ORet (Q_rm13_v Z o0 key ka va kf vf tk mm h0 n0) s ({ frames := 2, cells := 0, slots := 0, locals := 40 } : Room).cells ({ frames := 2, cells := 0, slots := 0, locals := 40 } : Room).slots) (s₁.setTop (mkF m 0 #[.val (.ref o0), .val (.long key), .second, .unset, .unset] []))
  have S1 : ∀ t, Steps p.tables e below (s₁.setTop (mkF m 2 #[.val (.ref o0), .val (.long key), .second, .unset, .unset] [(.long key), (.ref o0)])) t → Steps p.tables e below (s₁.setTop (mkF m 0 #[.val (.ref o0), .val (.long key), .second, .unset, .unset] [])) t := by
    intro t k
    show Steps p.tables e below (s₁.setTop (mkF m 0 #[.val (.ref o0), .val (.long key), .second, .unset, .unset] [])) t
    refine XS.aloadN X0.here hx rfl (hb hby d13_0) rfl rfl ?_
    show Steps p.tables e below (s₁.setTop (mkF m 1 #[.val (.ref o0), .val (.long key), .second, .unset, .unset] [(.ref o0)])) t
    refine XS.lloadN X0.here hx rfl (hb hby d13_1) rfl ?_
    exact k
  refine OFin.go S1 ?_
  obtain ⟨_, T2, Lc2, X2, hQ2, st2⟩ := privQ X0 hx hZ (y := (⟨"com/example/clockwrap/clockwrap/store/LongTable$Part", "slot", "(J)I"⟩ : MethodName)) hown (hw _ (List.mem_of_getElem? (i := 53) rfl)) (hw _ (List.mem_of_getElem? (i := 54) rfl)) (hw _ (List.mem_of_getElem? (i := 14) rfl)) (hw _ (List.mem_of_getElem? (i := 56) rfl)) (hw _ (List.mem_of_getElem? (i := 55) rfl)) (hw _ (List.mem_of_getElem? (i := 13) rfl)) (by decide) E0 (argsL := [(.long key)]) (rest := []) (rm10 l Z a0 hw [] o0 key ka kf h0 n0 Z0 E0 Fs Fk Va (hP.free (by omega))) (W := 0) (by decide) (by decide) e0 (g := (mkF m 2 #[.val (.ref o0), .val (.long key), .second, .unset, .unset] [(.long key), (.ref o0)])) rfl (by rw [hml]; rfl) (lenOf pd_1 rfl) rfl (by show 2 * 0 + _ ≤ _; exact Nat.le_of_eq rfl) (hb hby d13_2) (Nat.le_of_ble_eq_true rfl) (Nat.le_of_ble_eq_true rfl)
  obtain ⟨sl, rfl, N2q, e2, hs0, hfn⟩ := hQ2
  have N2 := Fr.app N0 N2q
  refine OFin.go st2 ?_
  show OFin p e below _ (T2.setTop (mkF m 5 #[.val (.ref o0), .val (.long key), .second, .unset, .unset] [(.int sl)]))
  have S3 : ∀ t, Steps p.tables e below (T2.setTop (mkF m 7 #[.val (.ref o0), .val (.long key), .second, .val (.int sl), .unset] [(.ref o0)])) t → Steps p.tables e below (T2.setTop (mkF m 5 #[.val (.ref o0), .val (.long key), .second, .unset, .unset] [(.int sl)])) t := by
    intro t k
    show Steps p.tables e below (T2.setTop (mkF m 5 #[.val (.ref o0), .val (.long key), .second, .unset, .unset] [(.int sl)])) t
    refine XS.istoreN X2.here hx rfl (hb hby d13_5) rfl (l' := #[.val (.ref o0), .val (.long key), .second, .val (.int sl), .unset]) rfl ?_
    show Steps p.tables e below (T2.setTop (mkF m 6 #[.val (.ref o0), .val (.long key), .second, .val (.int sl), .unset] [])) t
    refine XS.aloadN X2.here hx rfl (hb hby d13_6) rfl rfl ?_
    exact k
  refine OFin.go S3 ?_
  obtain ⟨T4, X4, e4, st4⟩ := getF X2 hx hZ hown (host := "") (Or.inl (hw _ (List.mem_of_getElem? (i := 20) rfl))) Via.refl e2 Fk (g := (mkF m 7 #[.val (.ref o0), .val (.long key), .second, .val (.int sl), .unset] [(.ref o0)])) rfl rfl (hb hby d13_7)
  refine OFin.go st4 ?_
  show OFin p e below _ (T4.setTop (mkF m 10 #[.val (.ref o0), .val (.long key), .second, .val (.int sl), .unset] [(.ref ka)]))
  have S5 : ∀ t, Steps p.tables e below (T4.setTop (mkF m 14 #[.val (.ref o0), .val (.long key), .second, .val (.int sl), .unset] [(.int (lcmpW (kf sl.toNatClampNeg) (0 : Int64)))])) t → Steps p.tables e below (T4.setTop (mkF m 10 #[.val (.ref o0), .val (.long key), .second, .val (.int sl), .unset] [(.ref ka)])) t := by
    intro t k
    show Steps p.tables e below (T4.setTop (mkF m 10 #[.val (.ref o0), .val (.long key), .second, .val (.int sl), .unset] [(.ref ka)])) t
    refine XS.iloadN X4.here hx rfl (hb hby d13_10) rfl ?_
    show Steps p.tables e below (T4.setTop (mkF m 11 #[.val (.ref o0), .val (.long key), .second, .val (.int sl), .unset] [(.int sl), (.ref ka)])) t
    refine rdJ X4 hx hZ e4 Va (i := sl.toNatClampNeg) hs0 rfl (own_fls hfn) (x := (.long (kf sl.toNatClampNeg))) rfl (g := (mkF m 11 #[.val (.ref o0), .val (.long key), .second, .val (.int sl), .unset] [(.int sl), (.ref ka)])) rfl rfl (hb hby d13_11) ?_
    show Steps p.tables e below (T4.setTop (mkF m 12 #[.val (.ref o0), .val (.long key), .second, .val (.int sl), .unset] [(.long (kf sl.toNatClampNeg))])) t
    refine XS.lconst X4.here hx rfl (hb hby d13_12) ?_
    show Steps p.tables e below (T4.setTop (mkF m 13 #[.val (.ref o0), .val (.long key), .second, .val (.int sl), .unset] [(.long (0 : Int64)), (.long (kf sl.toNatClampNeg))])) t
    refine XS.lcmp X4.here hx rfl (hb hby d13_13) rfl ?_
    exact k
  refine OFin.go S5 ?_
  have J6 : ∀ t, Steps p.tables e below (T4.setTop (mkF m 22 #[.val (.ref o0), .val (.long key), .second, .val (.int sl), .unset] [(.int (bi ((kf sl.toNatClampNeg) = (0 : Int64))))])) t → Steps p.tables e below (T4.setTop (mkF m 14 #[.val (.ref o0), .val (.long key), .second, .val (.int sl), .unset] [(.int (lcmpW (kf sl.toNatClampNeg) (0 : Int64)))])) t := by
    intro t k
    show Steps p.tables e below (T4.setTop (mkF m 14 #[.val (.ref o0), .val (.long key), .second, .val (.int sl), .unset] [(.int (lcmpW (kf sl.toNatClampNeg) (0 : Int64)))])) t
    by_cases h7 : ((kf sl.toNatClampNeg) = (0 : Int64))
    · refine XS.ifNo X4.here hx rfl (hb hby d13_14) rfl (lc_ne_f h7) ?_
      show Steps p.tables e below (T4.setTop (mkF m 17 #[.val (.ref o0), .val (.long key), .second, .val (.int sl), .unset] [])) t
      refine XS.iconst X4.here hx rfl (hb hby d13_17) ?_
      show Steps p.tables e below (T4.setTop (mkF m 18 #[.val (.ref o0), .val (.long key), .second, .val (.int sl), .unset] [(.int (1 : Int32))])) t
      refine XS.goto X4.here hx rfl (pc0 := 18) (pc' := 22) rfl (hb hby d13_18) (by decide) (by decide) ?_
      show Steps p.tables e below (T4.setTop (mkF m 22 #[.val (.ref o0), .val (.long key), .second, .val (.int sl), .unset] [(.int (1 : Int32))])) t
      exact (castTop (congrArg (fun zq_ => (mkF m 22 #[.val (.ref o0), .val (.long key), .second, .val (.int sl), .unset] [(.int zq_)])) (bi_t h7).symm) k)
    · refine XS.ifYes X4.here hx rfl (pc0 := 14) (pc' := 21) rfl (hb hby d13_14) rfl (lc_ne_t h7) (by decide) (by decide) ?_
      show Steps p.tables e below (T4.setTop (mkF m 21 #[.val (.ref o0), .val (.long key), .second, .val (.int sl), .unset] [])) t
      refine XS.iconst X4.here hx rfl (hb hby d13_21) ?_
      show Steps p.tables e below (T4.setTop (mkF m 22 #[.val (.ref o0), .val (.long key), .second, .val (.int sl), .unset] [(.int (0 : Int32))])) t
      exact (castTop (congrArg (fun zq_ => (mkF m 22 #[.val (.ref o0), .val (.long key), .second, .val (.int sl), .unset] [(.int zq_)])) (bi_f h7).symm) k)
  refine OFin.go J6 ?_
  have S8 : ∀ t, Steps p.tables e below (T4.setTop (mkF m 26 #[.val (.ref o0), .val (.long key), .second, .val (.int sl), .val (.int (bi ((kf sl.toNatClampNeg) = (0 : Int64))))] [(.int (bi ((kf sl.toNatClampNeg) = (0 : Int64))))])) t → Steps p.tables e below (T4.setTop (mkF m 22 #[.val (.ref o0), .val (.long key), .second, .val (.int sl), .unset] [(.int (bi ((kf sl.toNatClampNeg) = (0 : Int64))))])) t := by
    intro t k
    show Steps p.tables e below (T4.setTop (mkF m 22 #[.val (.ref o0), .val (.long key), .second, .val (.int sl), .unset] [(.int (bi ((kf sl.toNatClampNeg) = (0 : Int64))))])) t
    refine XS.istore X4.here hx rfl (hb hby d13_22) rfl (l' := #[.val (.ref o0), .val (.long key), .second, .val (.int sl), .val (.int (bi ((kf sl.toNatClampNeg) = (0 : Int64))))]) rfl ?_
    show Steps p.tables e below (T4.setTop (mkF m 24 #[.val (.ref o0), .val (.long key), .second, .val (.int sl), .val (.int (bi ((kf sl.toNatClampNeg) = (0 : Int64))))] [])) t
    refine XS.iload X4.here hx rfl (hb hby d13_24) rfl ?_
    exact k
  refine OFin.go S8 ?_
  by_cases h9 : ((kf sl.toNatClampNeg) = (0 : Int64))
  · -- pc 26: ((kf sl.toNatClampNeg) = (0 : Int64))
    have S10 : ∀ t, Steps p.tables e below (T4.setTop (mkF m 29 #[.val (.ref o0), .val (.long key), .second, .val (.int sl), .val (.int (bi ((kf sl.toNatClampNeg) = (0 : Int64))))] [])) t → Steps p.tables e below (T4.setTop (mkF m 26 #[.val (.ref o0), .val (.long key), .second, .val (.int sl), .val (.int (bi ((kf sl.toNatClampNeg) = (0 : Int64))))] [(.int (bi ((kf sl.toNatClampNeg) = (0 : Int64))))])) t := by
      intro t k
      show Steps p.tables e below (T4.setTop (mkF m 26 #[.val (.ref o0), .val (.long key), .second, .val (.int sl), .val (.int (bi ((kf sl.toNatClampNeg) = (0 : Int64))))] [(.int (bi ((kf sl.toNatClampNeg) = (0 : Int64))))])) t
      refine XS.ifNo X4.here hx rfl (hb hby d13_26) rfl (bi_eq_f h9) ?_
      exact k
    refine OFin.go S10 ?_
    have S11 : ∀ t, Steps p.tables e below (T4.setTop (mkF m 33 #[.val (.ref o0), .val (.long key), .second, .val (.int sl), .val (.int (bi ((kf sl.toNatClampNeg) = (0 : Int64))))] [(.long (0 : Int64)), (.long key), (.int sl), (.ref o0)])) t → Steps p.tables e below (T4.setTop (mkF m 29 #[.val (.ref o0), .val (.long key), .second, .val (.int sl), .val (.int (bi ((kf sl.toNatClampNeg) = (0 : Int64))))] [])) t := by
      intro t k
      show Steps p.tables e below (T4.setTop (mkF m 29 #[.val (.ref o0), .val (.long key), .second, .val (.int sl), .val (.int (bi ((kf sl.toNatClampNeg) = (0 : Int64))))] [])) t
      refine XS.aloadN X4.here hx rfl (hb hby d13_29) rfl rfl ?_
      show Steps p.tables e below (T4.setTop (mkF m 30 #[.val (.ref o0), .val (.long key), .second, .val (.int sl), .val (.int (bi ((kf sl.toNatClampNeg) = (0 : Int64))))] [(.ref o0)])) t
      refine XS.iloadN X4.here hx rfl (hb hby d13_30) rfl ?_
      show Steps p.tables e below (T4.setTop (mkF m 31 #[.val (.ref o0), .val (.long key), .second, .val (.int sl), .val (.int (bi ((kf sl.toNatClampNeg) = (0 : Int64))))] [(.int sl), (.ref o0)])) t
      refine XS.lloadN X4.here hx rfl (hb hby d13_31) rfl ?_
      show Steps p.tables e below (T4.setTop (mkF m 32 #[.val (.ref o0), .val (.long key), .second, .val (.int sl), .val (.int (bi ((kf sl.toNatClampNeg) = (0 : Int64))))] [(.long key), (.int sl), (.ref o0)])) t
      refine XS.lconst X4.here hx rfl (hb hby d13_32) ?_
      exact k
    refine OFin.go S11 ?_
    obtain ⟨_, T12, Lc12, X12, hQ12, st12⟩ := privQ X4 hx hZ (y := (⟨"com/example/clockwrap/clockwrap/store/LongTable$Part", "place", "(IJJ)V"⟩ : MethodName)) hown (hw _ (List.mem_of_getElem? (i := 72) rfl)) (hw _ (List.mem_of_getElem? (i := 73) rfl)) (hw _ (List.mem_of_getElem? (i := 14) rfl)) (hw _ (List.mem_of_getElem? (i := 75) rfl)) (hw _ (List.mem_of_getElem? (i := 74) rfl)) (hw _ (List.mem_of_getElem? (i := 13) rfl)) (by decide) E0 (argsL := [(.int sl), (.long key), (.long (0 : Int64))]) (rest := []) (rm14_v l Z a0 hw [] o0 sl key (0 : Int64) ka va kf vf tk h0 n0 Z0 geo gek nok gev nov nkv E0 Fk Fv Fs Ft Va Vv hs0 (own_fls hfn) (own_t hP hm10).1) (W := 0) (by decide) (by decide) e4 (g := (mkF m 33 #[.val (.ref o0), .val (.long key), .second, .val (.int sl), .val (.int (bi ((kf sl.toNatClampNeg) = (0 : Int64))))] [(.long (0 : Int64)), (.long key), (.int sl), (.ref o0)])) rfl (by rw [hml]; rfl) (lenOf pd_2 rfl) rfl (by show 2 * 0 + _ ≤ _; exact Nat.le_of_eq rfl) (hb hby d13_33) (Nat.le_of_ble_eq_true rfl) (Nat.le_of_ble_eq_true rfl)
    obtain ⟨rfl, N12q, K12q, E12, Fk12, Fv12, Fs12, Ft12, Va12, Vv12⟩ := hQ12
    have Z12 : n0 ≤ T12.heap.size := Nat.le_trans Z0 K12q.1
    have K12 := Keep.trans K0 K12q (allS (Or.inl (List.mem_of_getElem? (i := 0) rfl)) (allS (Or.inl (List.mem_of_getElem? (i := 1) rfl)) (allS (Or.inl (List.mem_of_getElem? (i := 2) rfl)) all0)))
    have N12 := Fr.app N2 N12q
    refine OFin.go st12 ?_
    show OFin p e below _ (T12.setTop (mkF m 36 #[.val (.ref o0), .val (.long key), .second, .val (.int sl), .val (.int (bi ((kf sl.toNatClampNeg) = (0 : Int64))))] []))
    have S13 : ∀ t, Steps p.tables e below (T12.setTop (mkF m 38 #[.val (.ref o0), .val (.long key), .second, .val (.int sl), .val (.int (bi ((kf sl.toNatClampNeg) = (0 : Int64))))] [(.int (bi ((kf sl.toNatClampNeg) = (0 : Int64))))])) t → Steps p.tables e below (T12.setTop (mkF m 36 #[.val (.ref o0), .val (.long key), .second, .val (.int sl), .val (.int (bi ((kf sl.toNatClampNeg) = (0 : Int64))))] [])) t := by
      intro t k
      show Steps p.tables e below (T12.setTop (mkF m 36 #[.val (.ref o0), .val (.long key), .second, .val (.int sl), .val (.int (bi ((kf sl.toNatClampNeg) = (0 : Int64))))] [])) t
      refine XS.iload X12.here hx rfl (hb hby d13_36) rfl ?_
      exact k
    refine OFin.go S13 ?_
    exact finZ X12 hx Bd.notSynchronized (t := .boolean) Bd.returns (by simp) (hb hby d13_38) (nar_bi _) (by decide) (by decide) (by exact ⟨_, upd kf sl.toNatClampNeg key, upd vf sl.toNatClampNeg 0, tk + 1, rfl, N12, K12, E12, Fk12, Fv12, Fs12, Ft12, Va12, Vv12, (own_addNew hP (by omega) hk hfn h9 (own_t hP hm10).2.1).1, own_addR (own_addNew hP (by omega) hk hfn h9 (own_t hP hm10).2.1).2, fun q => own_upd0 q rfl⟩)
  · -- pc 26: not ((kf sl.toNatClampNeg) = (0 : Int64))
    have S14 : ∀ t, Steps p.tables e below (T4.setTop (mkF m 36 #[.val (.ref o0), .val (.long key), .second, .val (.int sl), .val (.int (bi ((kf sl.toNatClampNeg) = (0 : Int64))))] [])) t → Steps p.tables e below (T4.setTop (mkF m 26 #[.val (.ref o0), .val (.long key), .second, .val (.int sl), .val (.int (bi ((kf sl.toNatClampNeg) = (0 : Int64))))] [(.int (bi ((kf sl.toNatClampNeg) = (0 : Int64))))])) t := by
      intro t k
      show Steps p.tables e below (T4.setTop (mkF m 26 #[.val (.ref o0), .val (.long key), .second, .val (.int sl), .val (.int (bi ((kf sl.toNatClampNeg) = (0 : Int64))))] [(.int (bi ((kf sl.toNatClampNeg) = (0 : Int64))))])) t
      refine XS.ifYes X4.here hx rfl (pc0 := 26) (pc' := 36) rfl (hb hby d13_26) rfl (bi_eq_t h9) (by decide) (by decide) ?_
      exact k
    refine OFin.go S14 ?_
    have S15 : ∀ t, Steps p.tables e below (T4.setTop (mkF m 38 #[.val (.ref o0), .val (.long key), .second, .val (.int sl), .val (.int (bi ((kf sl.toNatClampNeg) = (0 : Int64))))] [(.int (bi ((kf sl.toNatClampNeg) = (0 : Int64))))])) t → Steps p.tables e below (T4.setTop (mkF m 36 #[.val (.ref o0), .val (.long key), .second, .val (.int sl), .val (.int (bi ((kf sl.toNatClampNeg) = (0 : Int64))))] [])) t := by
      intro t k
      show Steps p.tables e below (T4.setTop (mkF m 36 #[.val (.ref o0), .val (.long key), .second, .val (.int sl), .val (.int (bi ((kf sl.toNatClampNeg) = (0 : Int64))))] [])) t
      refine XS.iload X4.here hx rfl (hb hby d13_36) rfl ?_
      exact k
    refine OFin.go S15 ?_
    exact finZ X4 hx Bd.notSynchronized (t := .boolean) Bd.returns (by simp) (hb hby d13_38) (nar_bi _) (by decide) (by decide) (by rw [e4]; exact ⟨_, kf, vf, tk, rfl, N2, K0, E0, Fk, Fv, Fs, Ft, Va, Vv, hP.mono (by omega), own_addS ((own_lk hfn).resolve_left h9) (own_fls hfn), fun q => q⟩)
theorem ef_rm19_v (m : MethodId) (o0 : Addr) (u1 : Int32) : entryFrame m #[(.ref o0), (.int u1)] 5 = mkF m 0 #[.val (.ref o0), .val (.int u1), .unset, .unset, .unset] [] := by first | (simp [entryFrame, mkF, argsToLocals, Value.category]; done) | rfl
def Q_rm19_v (Z : State) (o0 : Addr) (u1 : Int32) (ka va : Addr) (kf vf : Nat → Int64) (tk : Int32) (mm : Nat) (h0 : Heap) (n0 : Nat) (v : Option Value) (h : Heap) (L : List Loc) : Prop := ∃ (kf' vf' : Nat → Int64), v = none ∧ Fr n0 L ∧ Keep h0 h [o0, ka, va] ∧ Exa Z h o0 "com/example/clockwrap/clockwrap/store/LongTable$Part" ∧ Fld Z h o0 "com/example/clockwrap/clockwrap/store/LongTable$Part" "keys" "[J" (.ref ka) ∧ Fld Z h o0 "com/example/clockwrap/clockwrap/store/LongTable$Part" "values" "[J" (.ref va) ∧ Fld Z h o0 "com/example/clockwrap/clockwrap/store/LongTable$Part" "shift" "I" (.int (60 : Int32)) ∧ Fld Z h o0 "com/example/clockwrap/clockwrap/store/LongTable$Part" "taken" "I" (.int tk) ∧ Ara Z h ka .long 16 (fun i => .long (kf' i)) ∧ Ara Z h va .long 16 (fun i => .long (vf' i)) ∧ (∀ tk' : Int32, tk'.toInt = tk.toInt - 1 → PI hm kf' vf' tk' (mm + 1)) ∧ (∀ kk vv, kk ≠ 0 → (In kf' vf' kk vv ↔ kk ≠ kf u1.toNatClampNeg ∧ In kf vf kk vv)) ∧ ((∀ i, vf i = 0) → ∀ i, vf' i = 0)
theorem d19_115 : decode prog_33_method_10_code 115 = .ok (.aload_n 0, 1) := by decide +kernel
theorem d19_116 : decode prog_33_method_10_code 116 = .ok (.getfield 35, 3) := by decide +kernel
theorem d19_119 : decode prog_33_method_10_code 119 = .ok (.iload_n 3, 1) := by decide +kernel
theorem d19_120 : decode prog_33_method_10_code 120 = .ok (.lconst 0, 1) := by decide +kernel
theorem d19_121 : decode prog_33_method_10_code 121 = .ok (.lastore, 1) := by decide +kernel
theorem d19_74 : decode prog_33_method_10_code 74 = .ok (.aload_n 0, 1) := by decide +kernel
theorem d19_75 : decode prog_33_method_10_code 75 = .ok (.getfield 35, 3) := by decide +kernel
theorem d19_78 : decode prog_33_method_10_code 78 = .ok (.iload_n 3, 1) := by decide +kernel
theorem d19_79 : decode prog_33_method_10_code 79 = .ok (.aload_n 0, 1) := by decide +kernel
theorem d19_80 : decode prog_33_method_10_code 80 = .ok (.getfield 35, 3) := by decide +kernel
theorem d19_83 : decode prog_33_method_10_code 83 = .ok (.iload 4, 2) := by decide +kernel
theorem d19_85 : decode prog_33_method_10_code 85 = .ok (.laload, 1) := by decide +kernel
theorem d19_86 : decode prog_33_method_10_code 86 = .ok (.lastore, 1) := by decide +kernel
set_option maxRecDepth 65536 in
set_option maxHeartbeats 40000000 in
theorem rm19_v (l : Launch) (Z : State) (a0 : Array Value) (hw : ∀ d ∈ tables_1, d.before a0 Z = true) (ws : List Jvm.Cond) (o0 : Addr) (u1 : Int32) (ka va : Addr) (kf vf : Nat → Int64) (tk : Int32) (mm : Nat) (h0 : Heap) (n0 : Nat) (Z0 : n0 ≤ h0.size) (geo : n0 ≤ o0) (gek : n0 ≤ ka) (nok : o0 ≠ ka) (gev : n0 ≤ va) (nov : o0 ≠ va) (nkv : ka ≠ va) (E0 : Exa Z h0 o0 "com/example/clockwrap/clockwrap/store/LongTable$Part") (Fk : Fld Z h0 o0 "com/example/clockwrap/clockwrap/store/LongTable$Part" "keys" "[J" (.ref ka)) (Fv : Fld Z h0 o0 "com/example/clockwrap/clockwrap/store/LongTable$Part" "values" "[J" (.ref va)) (Fs : Fld Z h0 o0 "com/example/clockwrap/clockwrap/store/LongTable$Part" "shift" "I" (.int (60 : Int32))) (Ft : Fld Z h0 o0 "com/example/clockwrap/clockwrap/store/LongTable$Part" "taken" "I" (.int tk)) (Va : Ara Z h0 ka .long 16 (fun i => .long (kf i))) (Vv : Ara Z h0 va .long 16 (fun i => .long (vf i))) (hP : PI hm kf vf tk mm) (hm10 : mm < 10) (hu0 : ¬ u1 < 0) (hu1 : u1.toNatClampNeg < 16) (hk : kf u1.toNatClampNeg ≠ 0) :
    MetFree l (⟨"com/example/clockwrap/clockwrap/store/LongTable$Part", "free", "(I)V"⟩ : MethodName) (head1 (Jvm.Cond.code (⟨"com/example/clockwrap/clockwrap/store/LongTable$Part", "free", "(I)V"⟩ : MethodName) prog_33_method_10_code 5 none :: ws) ({ frames := 1, cells := 0, slots := 0, locals := 15 } : Room)) (fun a U => a = #[(.ref o0), (.int u1)] ∧ Z.Warmed39 U.vm ∧ U.heap = h0) (fun _ _ _ _ _ => True) (fun _ U o U' => ∃ v L, o = .returned v ∧ (Q_rm19_v Z o0 u1 ka va kf vf tk mm h0 n0) v U'.heap L ∧ FrameEnd U o U' L ({ frames := 1, cells := 0, slots := 0, locals := 15 } : Room).cells ({ frames := 1, cells := 0, slots := 0, locals := 15 } : Room).slots) := by
  refine MetFree.of_bodySF (plainFor_of_name pn_1) hisR ?_
  intro p e s m args below meth c s₁ Bd hml0 hP hK
  obtain ⟨rfl, hZ, hh⟩ := hP
  have hx := Bd.exec
  have hby := Bd.bytes
  have hml : c.maxLocals = 5 := hml0
  have hown : s.vm.findClass "com/example/clockwrap/clockwrap/store/LongTable$Part" = some m.cls := findClass_of_methodNamed Bd.named
  have hnm := (name_of_methodNamed Bd.named Bd.method).1
  have X0 : Stand p l e ({ frames := 1, cells := 0, slots := 0, locals := 15 } : Room) s m #[(.ref o0), (.int u1)] below meth c s₁ [] 0 0 := Stand.of_body Bd
  have e0 : s₁.heap = h0 := by rw [← hh, Bd.state]; rfl
  have N0 := Fr.nil n0
  show OFin p e below (ORet (Q_rm19_v Z o0 u1 ka va kf vf tk mm h0 n0) s ({ frames := 1, cells := 0, slots := 0, locals := 15 } : Room).cells ({ frames := 1, cells := 0, slots := 0, locals := 15 } : Room).slots) (s₁.setTop (entryFrame m #[(.ref o0), (.int u1)] 5))
  refine OFin.go (fun t k => castTop (ef_rm19_v m o0 u1) k) ?_
  have K0 := Keep.refl h0 [o0, ka, va]
  obtain ⟨zz, hzz, hz0⟩ := hP.free (by omega)
  show OFin p e below (ORet (Q_rm19_v Z o0 u1 ka va kf vf tk mm h0 n0) s ({ frames := 1, cells := 0, slots := 0, locals := 15 } : Room).cells ({ frames := 1, cells := 0, slots := 0, locals := 15 } : Room).slots) (s₁.setTop (mkF m 0 #[.val (.ref o0), .val (.int u1), .unset, .unset, .unset] []))
  have S1 : ∀ t, Steps p.tables e below (s₁.setTop (mkF m 1 #[.val (.ref o0), .val (.int u1), .unset, .unset, .unset] [(.ref o0)])) t → Steps p.tables e below (s₁.setTop (mkF m 0 #[.val (.ref o0), .val (.int u1), .unset, .unset, .unset] [])) t := by
    intro t k
    show Steps p.tables e below (s₁.setTop (mkF m 0 #[.val (.ref o0), .val (.int u1), .unset, .unset, .unset] [])) t
    refine XS.aloadN X0.here hx rfl (hb hby d19_0) rfl rfl ?_
    exact k
  refine OFin.go S1 ?_
  obtain ⟨T2, X2, e2, st2⟩ := getF X0 hx hZ hown (host := "") (Or.inl (hw _ (List.mem_of_getElem? (i := 20) rfl))) Via.refl e0 Fk (g := (mkF m 1 #[.val (.ref o0), .val (.int u1), .unset, .unset, .unset] [(.ref o0)])) rfl rfl (hb hby d19_1)
  refine OFin.go st2 ?_
  show OFin p e below _ (T2.setTop (mkF m 4 #[.val (.ref o0), .val (.int u1), .unset, .unset, .unset] [(.ref ka)]))
  have S3 : ∀ t, Steps p.tables e below (T2.setTop (mkF m 17 #[.val (.ref o0), .val (.int u1), .val (.int (15 : Int32)), .val (.int u1), .val (.int ((u1 + (1 : Int32)) &&& (15 : Int32)))] [])) t → Steps p.tables e below (T2.setTop (mkF m 4 #[.val (.ref o0), .val (.int u1), .unset, .unset, .unset] [(.ref ka)])) t := by
    intro t k
    show Steps p.tables e below (T2.setTop (mkF m 4 #[.val (.ref o0), .val (.int u1), .unset, .unset, .unset] [(.ref ka)])) t
    refine alen X2 hx hZ e2 Va (z := (16 : Int32)) rfl (g := (mkF m 4 #[.val (.ref o0), .val (.int u1), .unset, .unset, .unset] [(.ref ka)])) rfl rfl (hb hby d19_4) ?_
    show Steps p.tables e below (T2.setTop (mkF m 5 #[.val (.ref o0), .val (.int u1), .unset, .unset, .unset] [(.int (16 : Int32))])) t
    refine XS.iconst X2.here hx rfl (hb hby d19_5) ?_
    show Steps p.tables e below (T2.setTop (mkF m 6 #[.val (.ref o0), .val (.int u1), .unset, .unset, .unset] [(.int (1 : Int32)), (.int (16 : Int32))])) t
    refine XS.isub X2.here hx rfl (hb hby d19_6) rfl ?_
    show Steps p.tables e below (T2.setTop (mkF m 7 #[.val (.ref o0), .val (.int u1), .unset, .unset, .unset] [(.int (15 : Int32))])) t
    refine XS.istoreN X2.here hx rfl (hb hby d19_7) rfl (l' := #[.val (.ref o0), .val (.int u1), .val (.int (15 : Int32)), .unset, .unset]) rfl ?_
    show Steps p.tables e below (T2.setTop (mkF m 8 #[.val (.ref o0), .val (.int u1), .val (.int (15 : Int32)), .unset, .unset] [])) t
    refine XS.iloadN X2.here hx rfl (hb hby d19_8) rfl ?_
    show Steps p.tables e below (T2.setTop (mkF m 9 #[.val (.ref o0), .val (.int u1), .val (.int (15 : Int32)), .unset, .unset] [(.int u1)])) t
    refine XS.istoreN X2.here hx rfl (hb hby d19_9) rfl (l' := #[.val (.ref o0), .val (.int u1), .val (.int (15 : Int32)), .val (.int u1), .unset]) rfl ?_
    show Steps p.tables e below (T2.setTop (mkF m 10 #[.val (.ref o0), .val (.int u1), .val (.int (15 : Int32)), .val (.int u1), .unset] [])) t
    refine XS.iloadN X2.here hx rfl (hb hby d19_10) rfl ?_
    show Steps p.tables e below (T2.setTop (mkF m 11 #[.val (.ref o0), .val (.int u1), .val (.int (15 : Int32)), .val (.int u1), .unset] [(.int u1)])) t
    refine XS.iconst X2.here hx rfl (hb hby d19_11) ?_
    show Steps p.tables e below (T2.setTop (mkF m 12 #[.val (.ref o0), .val (.int u1), .val (.int (15 : Int32)), .val (.int u1), .unset] [(.int (1 : Int32)), (.int u1)])) t
    refine XS.iadd X2.here hx rfl (hb hby d19_12) rfl ?_
    show Steps p.tables e below (T2.setTop (mkF m 13 #[.val (.ref o0), .val (.int u1), .val (.int (15 : Int32)), .val (.int u1), .unset] [(.int (u1 + (1 : Int32)))])) t
    refine XS.iloadN X2.here hx rfl (hb hby d19_13) rfl ?_
    show Steps p.tables e below (T2.setTop (mkF m 14 #[.val (.ref o0), .val (.int u1), .val (.int (15 : Int32)), .val (.int u1), .unset] [(.int (15 : Int32)), (.int (u1 + (1 : Int32)))])) t
    refine XS.iand X2.here hx rfl (hb hby d19_14) rfl ?_
    show Steps p.tables e below (T2.setTop (mkF m 15 #[.val (.ref o0), .val (.int u1), .val (.int (15 : Int32)), .val (.int u1), .unset] [(.int ((u1 + (1 : Int32)) &&& (15 : Int32)))])) t
    refine XS.istore X2.here hx rfl (hb hby d19_15) rfl (l' := #[.val (.ref o0), .val (.int u1), .val (.int (15 : Int32)), .val (.int u1), .val (.int ((u1 + (1 : Int32)) &&& (15 : Int32)))]) rfl ?_
    exact k
  refine OFin.go S3 ?_
  have LOOP4 : ∀ (k : Nat) (Tk : State) (lo_ : List Loc) (ce_ sl_ : Nat) (Xk : Stand p l e ({ frames := 1, cells := 0, slots := 0, locals := 15 } : Room) s m #[(.ref o0), (.int u1)] below meth c Tk lo_ ce_ sl_) (Hk : Heap) (ek : Tk.heap = Hk) (Nk : Fr n0 lo_) (hce_ : ce_ ≤ ({ frames := 1, cells := 0, slots := 0, locals := 15 } : Room).cells) (hsl_ : sl_ ≤ ({ frames := 1, cells := 0, slots := 0, locals := 15 } : Room).slots) (Zk : n0 ≤ Hk.size) (Kk : Keep h0 Hk [o0, ka, va]) (gp : Int32) (nx : Int32) (kg vg : Nat → Int64) (ii : Nat) (Ek : Exa Z Hk o0 "com/example/clockwrap/clockwrap/store/LongTable$Part") (Fkk : Fld Z Hk o0 "com/example/clockwrap/clockwrap/store/LongTable$Part" "keys" "[J" (.ref ka)) (Fvk : Fld Z Hk o0 "com/example/clockwrap/clockwrap/store/LongTable$Part" "values" "[J" (.ref va)) (Fsk : Fld Z Hk o0 "com/example/clockwrap/clockwrap/store/LongTable$Part" "shift" "I" (.int (60 : Int32))) (Ftk : Fld Z Hk o0 "com/example/clockwrap/clockwrap/store/LongTable$Part" "taken" "I" (.int tk)) (Vak : Ara Z Hk ka .long 16 (fun i => .long (kg i))) (Vvk : Ara Z Hk va .long 16 (fun i => .long (vg i))), (¬ gp < 0 ∧ ¬ nx < 0 ∧ nx.toNatClampNeg = (gp.toNatClampNeg + ii) % 16 ∧ ii + k < 16 ∧ (nx.toNatClampNeg + k) % 16 = zz ∧ Gap hm kg gp.toNatClampNeg ii ∧ (∀ k v, Oth kg vg gp.toNatClampNeg k v ↔ Oth kf vf u1.toNatClampNeg k v) ∧ (∀ u, u < 16 → kg u ≠ 0 → kf u ≠ 0) ∧ (∀ u, u < 16 → u ≠ gp.toNatClampNeg → kg u = 0 → vg u = 0) ∧ ((∀ i, vf i = 0) → ∀ i, vg i = 0)) → OFin p e below (ORet (Q_rm19_v Z o0 u1 ka va kf vf tk mm h0 n0) s ({ frames := 1, cells := 0, slots := 0, locals := 15 } : Room).cells ({ frames := 1, cells := 0, slots := 0, locals := 15 } : Room).slots) (Tk.setTop (mkF m 17 #[.val (.ref o0), .val (.int u1), .val (.int (15 : Int32)), .val (.int gp), .val (.int nx)] [])) := by
    intro k
    induction k with
    | zero =>
      intro Tk lo_ ce_ sl_ Xk Hk ek Nk hce_ hsl_ Zk Kk gp nx kg vg ii Ek Fkk Fvk Fsk Ftk Vak Vvk hinv
      obtain ⟨hg0, hn0, hnx, hii, hzk, hG, hO, hfw, hvz, hnv⟩ := hinv
      have hgl := hG.1
      have hnl : nx.toNatClampNeg < 16 := by omega
      have S5 : ∀ t, Steps p.tables e below (Tk.setTop (mkF m 18 #[.val (.ref o0), .val (.int u1), .val (.int (15 : Int32)), .val (.int gp), .val (.int nx)] [(.ref o0)])) t → Steps p.tables e below (Tk.setTop (mkF m 17 #[.val (.ref o0), .val (.int u1), .val (.int (15 : Int32)), .val (.int gp), .val (.int nx)] [])) t := by
        intro t k
        show Steps p.tables e below (Tk.setTop (mkF m 17 #[.val (.ref o0), .val (.int u1), .val (.int (15 : Int32)), .val (.int gp), .val (.int nx)] [])) t
        refine XS.aloadN Xk.here hx rfl (hb hby d19_17) rfl rfl ?_
        exact k
      refine OFin.go S5 ?_
      obtain ⟨T6, X6, e6, st6⟩ := getF Xk hx hZ hown (host := "") (Or.inl (hw _ (List.mem_of_getElem? (i := 20) rfl))) Via.refl ek Fkk (g := (mkF m 18 #[.val (.ref o0), .val (.int u1), .val (.int (15 : Int32)), .val (.int gp), .val (.int nx)] [(.ref o0)])) rfl rfl (hb hby d19_18)
      refine OFin.go st6 ?_
      show OFin p e below _ (T6.setTop (mkF m 21 #[.val (.ref o0), .val (.int u1), .val (.int (15 : Int32)), .val (.int gp), .val (.int nx)] [(.ref ka)]))
      have S7 : ∀ t, Steps p.tables e below (T6.setTop (mkF m 26 #[.val (.ref o0), .val (.int u1), .val (.int (15 : Int32)), .val (.int gp), .val (.int nx)] [(.int (lcmpW (kg nx.toNatClampNeg) (0 : Int64)))])) t → Steps p.tables e below (T6.setTop (mkF m 21 #[.val (.ref o0), .val (.int u1), .val (.int (15 : Int32)), .val (.int gp), .val (.int nx)] [(.ref ka)])) t := by
        intro t k
        show Steps p.tables e below (T6.setTop (mkF m 21 #[.val (.ref o0), .val (.int u1), .val (.int (15 : Int32)), .val (.int gp), .val (.int nx)] [(.ref ka)])) t
        refine XS.iload X6.here hx rfl (hb hby d19_21) rfl ?_
        show Steps p.tables e below (T6.setTop (mkF m 23 #[.val (.ref o0), .val (.int u1), .val (.int (15 : Int32)), .val (.int gp), .val (.int nx)] [(.int nx), (.ref ka)])) t
        refine rdJ X6 hx hZ e6 Vak (i := nx.toNatClampNeg) hn0 rfl hnl (x := (.long (kg nx.toNatClampNeg))) rfl (g := (mkF m 23 #[.val (.ref o0), .val (.int u1), .val (.int (15 : Int32)), .val (.int gp), .val (.int nx)] [(.int nx), (.ref ka)])) rfl rfl (hb hby d19_23) ?_
        show Steps p.tables e below (T6.setTop (mkF m 24 #[.val (.ref o0), .val (.int u1), .val (.int (15 : Int32)), .val (.int gp), .val (.int nx)] [(.long (kg nx.toNatClampNeg))])) t
        refine XS.lconst X6.here hx rfl (hb hby d19_24) ?_
        show Steps p.tables e below (T6.setTop (mkF m 25 #[.val (.ref o0), .val (.int u1), .val (.int (15 : Int32)), .val (.int gp), .val (.int nx)] [(.long (0 : Int64)), (.long (kg nx.toNatClampNeg))])) t
        refine XS.lcmp X6.here hx rfl (hb hby d19_25) rfl ?_
        exact k
      refine OFin.go S7 ?_
      have S8 : ∀ t, Steps p.tables e below (T6.setTop (mkF m 101 #[.val (.ref o0), .val (.int u1), .val (.int (15 : Int32)), .val (.int gp), .val (.int nx)] [])) t → Steps p.tables e below (T6.setTop (mkF m 26 #[.val (.ref o0), .val (.int u1), .val (.int (15 : Int32)), .val (.int gp), .val (.int nx)] [(.int (lcmpW (kg nx.toNatClampNeg) (0 : Int64)))])) t := by
        intro t k
        show Steps p.tables e below (T6.setTop (mkF m 26 #[.val (.ref o0), .val (.int u1), .val (.int (15 : Int32)), .val (.int gp), .val (.int nx)] [(.int (lcmpW (kg nx.toNatClampNeg) (0 : Int64)))])) t
        refine XS.ifYes X6.here hx rfl (pc0 := 26) (pc' := 101) rfl (hb hby d19_26) rfl (lc_eq_t (by rw [show nx.toNatClampNeg = zz by omega]; exact Classical.byContradiction fun q => hfw zz hzz q hz0)) (by decide) (by decide) ?_
        exact k
      refine OFin.go S8 ?_
      have S9 : ∀ t, Steps p.tables e below (T6.setTop (mkF m 102 #[.val (.ref o0), .val (.int u1), .val (.int (15 : Int32)), .val (.int gp), .val (.int nx)] [(.ref o0)])) t → Steps p.tables e below (T6.setTop (mkF m 101 #[.val (.ref o0), .val (.int u1), .val (.int (15 : Int32)), .val (.int gp), .val (.int nx)] [])) t := by
        intro t k
        show Steps p.tables e below (T6.setTop (mkF m 101 #[.val (.ref o0), .val (.int u1), .val (.int (15 : Int32)), .val (.int gp), .val (.int nx)] [])) t
        refine XS.aloadN X6.here hx rfl (hb hby d19_101) rfl rfl ?_
        exact k
      refine OFin.go S9 ?_
      obtain ⟨T10, X10, e10, st10⟩ := getF X6 hx hZ hown (host := "") (Or.inl (hw _ (List.mem_of_getElem? (i := 20) rfl))) Via.refl e6 Fkk (g := (mkF m 102 #[.val (.ref o0), .val (.int u1), .val (.int (15 : Int32)), .val (.int gp), .val (.int nx)] [(.ref o0)])) rfl rfl (hb hby d19_102)
      refine OFin.go st10 ?_
      show OFin p e below _ (T10.setTop (mkF m 105 #[.val (.ref o0), .val (.int u1), .val (.int (15 : Int32)), .val (.int gp), .val (.int nx)] [(.ref ka)]))
      have S11 : ∀ t, Steps p.tables e below (T10.setTop (mkF m 107 #[.val (.ref o0), .val (.int u1), .val (.int (15 : Int32)), .val (.int gp), .val (.int nx)] [(.long (0 : Int64)), (.int gp), (.ref ka)])) t → Steps p.tables e below (T10.setTop (mkF m 105 #[.val (.ref o0), .val (.int u1), .val (.int (15 : Int32)), .val (.int gp), .val (.int nx)] [(.ref ka)])) t := by
        intro t k
        show Steps p.tables e below (T10.setTop (mkF m 105 #[.val (.ref o0), .val (.int u1), .val (.int (15 : Int32)), .val (.int gp), .val (.int nx)] [(.ref ka)])) t
        refine XS.iloadN X10.here hx rfl (hb hby d19_105) rfl ?_
        show Steps p.tables e below (T10.setTop (mkF m 106 #[.val (.ref o0), .val (.int u1), .val (.int (15 : Int32)), .val (.int gp), .val (.int nx)] [(.int gp), (.ref ka)])) t
        refine XS.lconst X10.here hx rfl (hb hby d19_106) ?_
        exact k
      refine OFin.go S11 ?_
      obtain ⟨T12, h12, X12, e12, W12, st12⟩ := wrJ X10 hx hZ e10 Vak (i := gp.toNatClampNeg) hg0 rfl hgl (g := (mkF m 107 #[.val (.ref o0), .val (.int u1), .val (.int (15 : Int32)), .val (.int gp), .val (.int nx)] [(.long (0 : Int64)), (.int gp), (.ref ka)])) rfl rfl (hb hby d19_107)
      have V12 := Vak.set W12
      have N12 := Fr.snoc X12 Nk gek
      have Z12 : n0 ≤ h12.size := Nat.le_trans Zk (wr_le W12)
      have K12 := Keep.wr Kk W12 (Or.inl (List.mem_of_getElem? (i := 1) rfl))
      refine OFin.go st12 ?_
      show OFin p e below _ (T12.setTop (mkF m 108 #[.val (.ref o0), .val (.int u1), .val (.int (15 : Int32)), .val (.int gp), .val (.int nx)] []))
      have S13 : ∀ t, Steps p.tables e below (T12.setTop (mkF m 109 #[.val (.ref o0), .val (.int u1), .val (.int (15 : Int32)), .val (.int gp), .val (.int nx)] [(.ref o0)])) t → Steps p.tables e below (T12.setTop (mkF m 108 #[.val (.ref o0), .val (.int u1), .val (.int (15 : Int32)), .val (.int gp), .val (.int nx)] [])) t := by
        intro t k
        show Steps p.tables e below (T12.setTop (mkF m 108 #[.val (.ref o0), .val (.int u1), .val (.int (15 : Int32)), .val (.int gp), .val (.int nx)] [])) t
        refine XS.aloadN X12.here hx rfl (hb hby d19_108) rfl rfl ?_
        exact k
      refine OFin.go S13 ?_
      have F14 := Fvk.other W12 (Or.inl nok)
      obtain ⟨T15, X15, e15, st15⟩ := getF X12 hx hZ hown (host := "") (Or.inl (hw _ (List.mem_of_getElem? (i := 76) rfl))) Via.refl e12 F14 (g := (mkF m 109 #[.val (.ref o0), .val (.int u1), .val (.int (15 : Int32)), .val (.int gp), .val (.int nx)] [(.ref o0)])) rfl rfl (hb hby d19_109)
      refine OFin.go st15 ?_
      show OFin p e below _ (T15.setTop (mkF m 112 #[.val (.ref o0), .val (.int u1), .val (.int (15 : Int32)), .val (.int gp), .val (.int nx)] [(.ref va)]))
      refine OFin.go (fun t k => ?_ : ∀ t, Steps p.tables e below (T15.setTop (mkF m 115 #[.val (.ref o0), .val (.int u1), .val (.int (15 : Int32)), .val (.int gp), .val (.int nx)] [])) t → Steps p.tables e below (T15.setTop (mkF m 112 #[.val (.ref o0), .val (.int u1), .val (.int (15 : Int32)), .val (.int gp), .val (.int nx)] [(.ref va)])) t) ?_
      · show Steps p.tables e below (T15.setTop (mkF m 112 #[.val (.ref o0), .val (.int u1), .val (.int (15 : Int32)), .val (.int gp), .val (.int nx)] [(.ref va)])) t
        refine XS.ifnullNo X15.here hx rfl (hb hby d19_112) rfl ?_
        exact k
      have S16 : ∀ t, Steps p.tables e below (T15.setTop (mkF m 116 #[.val (.ref o0), .val (.int u1), .val (.int (15 : Int32)), .val (.int gp), .val (.int nx)] [(.ref o0)])) t → Steps p.tables e below (T15.setTop (mkF m 115 #[.val (.ref o0), .val (.int u1), .val (.int (15 : Int32)), .val (.int gp), .val (.int nx)] [])) t := by
        intro t k
        show Steps p.tables e below (T15.setTop (mkF m 115 #[.val (.ref o0), .val (.int u1), .val (.int (15 : Int32)), .val (.int gp), .val (.int nx)] [])) t
        refine XS.aloadN X15.here hx rfl (hb hby d19_115) rfl rfl ?_
        exact k
      refine OFin.go S16 ?_
      obtain ⟨T17, X17, e17, st17⟩ := getF X15 hx hZ hown (host := "") (Or.inl (hw _ (List.mem_of_getElem? (i := 76) rfl))) Via.refl e15 F14 (g := (mkF m 116 #[.val (.ref o0), .val (.int u1), .val (.int (15 : Int32)), .val (.int gp), .val (.int nx)] [(.ref o0)])) rfl rfl (hb hby d19_116)
      refine OFin.go st17 ?_
      show OFin p e below _ (T17.setTop (mkF m 119 #[.val (.ref o0), .val (.int u1), .val (.int (15 : Int32)), .val (.int gp), .val (.int nx)] [(.ref va)]))
      have S18 : ∀ t, Steps p.tables e below (T17.setTop (mkF m 121 #[.val (.ref o0), .val (.int u1), .val (.int (15 : Int32)), .val (.int gp), .val (.int nx)] [(.long (0 : Int64)), (.int gp), (.ref va)])) t → Steps p.tables e below (T17.setTop (mkF m 119 #[.val (.ref o0), .val (.int u1), .val (.int (15 : Int32)), .val (.int gp), .val (.int nx)] [(.ref va)])) t := by
        intro t k
        show Steps p.tables e below (T17.setTop (mkF m 119 #[.val (.ref o0), .val (.int u1), .val (.int (15 : Int32)), .val (.int gp), .val (.int nx)] [(.ref va)])) t
        refine XS.iloadN X17.here hx rfl (hb hby d19_119) rfl ?_
        show Steps p.tables e below (T17.setTop (mkF m 120 #[.val (.ref o0), .val (.int u1), .val (.int (15 : Int32)), .val (.int gp), .val (.int nx)] [(.int gp), (.ref va)])) t
        refine XS.lconst X17.here hx rfl (hb hby d19_120) ?_
        exact k
      refine OFin.go S18 ?_
      have F19 := Vvk.other W12 (Ne.symm nkv)
      obtain ⟨T20, h20, X20, e20, W20, st20⟩ := wrJ X17 hx hZ e17 F19 (i := gp.toNatClampNeg) hg0 rfl hgl (g := (mkF m 121 #[.val (.ref o0), .val (.int u1), .val (.int (15 : Int32)), .val (.int gp), .val (.int nx)] [(.long (0 : Int64)), (.int gp), (.ref va)])) rfl rfl (hb hby d19_121)
      have V20 := F19.set W20
      have N20 := Fr.snoc X20 N12 gev
      have Z20 : n0 ≤ h20.size := Nat.le_trans Z12 (wr_le W20)
      have K20 := Keep.wr K12 W20 (Or.inl (List.mem_of_getElem? (i := 2) rfl))
      refine OFin.go st20 ?_
      show OFin p e below _ (T20.setTop (mkF m 122 #[.val (.ref o0), .val (.int u1), .val (.int (15 : Int32)), .val (.int gp), .val (.int nx)] []))
      have F21 := Ek.wr W12
      have F22 := F21.wr W20
      have F23 := Fkk.other W12 (Or.inl nok)
      have F24 := F23.other W20 (Or.inl nov)
      have F25 := F14.other W20 (Or.inl nov)
      have F26 := Fsk.other W12 (Or.inl nok)
      have F27 := F26.other W20 (Or.inl nov)
      have F28 := Ftk.other W12 (Or.inl nok)
      have F29 := F28.other W20 (Or.inl nov)
      have F30 := V12.other W20 nkv
      exact finV X20 hx Bd.notSynchronized Bd.returns (hb hby d19_122) hce_ hsl_ (by rw [e20]; exact ⟨upd kg gp.toNatClampNeg 0, upd vg gp.toNatClampNeg 0, rfl, N20, K20, (F22), (F24), (F25), (F27), (F29), ((F30).congr (fun i _ => own_updl _ _ _ i)), ((V20).congr (fun i _ => own_updl _ _ _ i)), fun tk' q => (own_freed hm_lt hP hk hu1 rfl hG (by omega) (by rw [← hnx]; exact (by rw [show nx.toNatClampNeg = zz by omega]; exact Classical.byContradiction fun q => hfw zz hzz q hz0)) hO hfw hvz q).1, (own_freed hm_lt hP hk hu1 rfl hG (by omega) (by rw [← hnx]; exact (by rw [show nx.toNatClampNeg = zz by omega]; exact Classical.byContradiction fun q => hfw zz hzz q hz0)) hO hfw hvz (own_t hP hm10).2.2).2, fun q => own_upd0 (hnv q) rfl⟩)
    | succ k ih =>
      intro Tk lo_ ce_ sl_ Xk Hk ek Nk hce_ hsl_ Zk Kk gp nx kg vg ii Ek Fkk Fvk Fsk Ftk Vak Vvk hinv
      obtain ⟨hg0, hn0, hnx, hii, hzk, hG, hO, hfw, hvz, hnv⟩ := hinv
      have hgl := hG.1
      have hnl : nx.toNatClampNeg < 16 := by omega
      have S31 : ∀ t, Steps p.tables e below (Tk.setTop (mkF m 18 #[.val (.ref o0), .val (.int u1), .val (.int (15 : Int32)), .val (.int gp), .val (.int nx)] [(.ref o0)])) t → Steps p.tables e below (Tk.setTop (mkF m 17 #[.val (.ref o0), .val (.int u1), .val (.int (15 : Int32)), .val (.int gp), .val (.int nx)] [])) t := by
        intro t k
        show Steps p.tables e below (Tk.setTop (mkF m 17 #[.val (.ref o0), .val (.int u1), .val (.int (15 : Int32)), .val (.int gp), .val (.int nx)] [])) t
        refine XS.aloadN Xk.here hx rfl (hb hby d19_17) rfl rfl ?_
        exact k
      refine OFin.go S31 ?_
      obtain ⟨T32, X32, e32, st32⟩ := getF Xk hx hZ hown (host := "") (Or.inl (hw _ (List.mem_of_getElem? (i := 20) rfl))) Via.refl ek Fkk (g := (mkF m 18 #[.val (.ref o0), .val (.int u1), .val (.int (15 : Int32)), .val (.int gp), .val (.int nx)] [(.ref o0)])) rfl rfl (hb hby d19_18)
      refine OFin.go st32 ?_
      show OFin p e below _ (T32.setTop (mkF m 21 #[.val (.ref o0), .val (.int u1), .val (.int (15 : Int32)), .val (.int gp), .val (.int nx)] [(.ref ka)]))
      have S33 : ∀ t, Steps p.tables e below (T32.setTop (mkF m 26 #[.val (.ref o0), .val (.int u1), .val (.int (15 : Int32)), .val (.int gp), .val (.int nx)] [(.int (lcmpW (kg nx.toNatClampNeg) (0 : Int64)))])) t → Steps p.tables e below (T32.setTop (mkF m 21 #[.val (.ref o0), .val (.int u1), .val (.int (15 : Int32)), .val (.int gp), .val (.int nx)] [(.ref ka)])) t := by
        intro t k
        show Steps p.tables e below (T32.setTop (mkF m 21 #[.val (.ref o0), .val (.int u1), .val (.int (15 : Int32)), .val (.int gp), .val (.int nx)] [(.ref ka)])) t
        refine XS.iload X32.here hx rfl (hb hby d19_21) rfl ?_
        show Steps p.tables e below (T32.setTop (mkF m 23 #[.val (.ref o0), .val (.int u1), .val (.int (15 : Int32)), .val (.int gp), .val (.int nx)] [(.int nx), (.ref ka)])) t
        refine rdJ X32 hx hZ e32 Vak (i := nx.toNatClampNeg) hn0 rfl hnl (x := (.long (kg nx.toNatClampNeg))) rfl (g := (mkF m 23 #[.val (.ref o0), .val (.int u1), .val (.int (15 : Int32)), .val (.int gp), .val (.int nx)] [(.int nx), (.ref ka)])) rfl rfl (hb hby d19_23) ?_
        show Steps p.tables e below (T32.setTop (mkF m 24 #[.val (.ref o0), .val (.int u1), .val (.int (15 : Int32)), .val (.int gp), .val (.int nx)] [(.long (kg nx.toNatClampNeg))])) t
        refine XS.lconst X32.here hx rfl (hb hby d19_24) ?_
        show Steps p.tables e below (T32.setTop (mkF m 25 #[.val (.ref o0), .val (.int u1), .val (.int (15 : Int32)), .val (.int gp), .val (.int nx)] [(.long (0 : Int64)), (.long (kg nx.toNatClampNeg))])) t
        refine XS.lcmp X32.here hx rfl (hb hby d19_25) rfl ?_
        exact k
      refine OFin.go S33 ?_
      by_cases h34 : ((kg nx.toNatClampNeg) = (0 : Int64))
      · -- pc 26: ((kg nx.toNatClampNeg) = (0 : Int64))
        have S35 : ∀ t, Steps p.tables e below (T32.setTop (mkF m 101 #[.val (.ref o0), .val (.int u1), .val (.int (15 : Int32)), .val (.int gp), .val (.int nx)] [])) t → Steps p.tables e below (T32.setTop (mkF m 26 #[.val (.ref o0), .val (.int u1), .val (.int (15 : Int32)), .val (.int gp), .val (.int nx)] [(.int (lcmpW (kg nx.toNatClampNeg) (0 : Int64)))])) t := by
          intro t k
          show Steps p.tables e below (T32.setTop (mkF m 26 #[.val (.ref o0), .val (.int u1), .val (.int (15 : Int32)), .val (.int gp), .val (.int nx)] [(.int (lcmpW (kg nx.toNatClampNeg) (0 : Int64)))])) t
          refine XS.ifYes X32.here hx rfl (pc0 := 26) (pc' := 101) rfl (hb hby d19_26) rfl (lc_eq_t h34) (by decide) (by decide) ?_
          exact k
        refine OFin.go S35 ?_
        have S36 : ∀ t, Steps p.tables e below (T32.setTop (mkF m 102 #[.val (.ref o0), .val (.int u1), .val (.int (15 : Int32)), .val (.int gp), .val (.int nx)] [(.ref o0)])) t → Steps p.tables e below (T32.setTop (mkF m 101 #[.val (.ref o0), .val (.int u1), .val (.int (15 : Int32)), .val (.int gp), .val (.int nx)] [])) t := by
          intro t k
          show Steps p.tables e below (T32.setTop (mkF m 101 #[.val (.ref o0), .val (.int u1), .val (.int (15 : Int32)), .val (.int gp), .val (.int nx)] [])) t
          refine XS.aloadN X32.here hx rfl (hb hby d19_101) rfl rfl ?_
          exact k
        refine OFin.go S36 ?_
        obtain ⟨T37, X37, e37, st37⟩ := getF X32 hx hZ hown (host := "") (Or.inl (hw _ (List.mem_of_getElem? (i := 20) rfl))) Via.refl e32 Fkk (g := (mkF m 102 #[.val (.ref o0), .val (.int u1), .val (.int (15 : Int32)), .val (.int gp), .val (.int nx)] [(.ref o0)])) rfl rfl (hb hby d19_102)
        refine OFin.go st37 ?_
        show OFin p e below _ (T37.setTop (mkF m 105 #[.val (.ref o0), .val (.int u1), .val (.int (15 : Int32)), .val (.int gp), .val (.int nx)] [(.ref ka)]))
        have S38 : ∀ t, Steps p.tables e below (T37.setTop (mkF m 107 #[.val (.ref o0), .val (.int u1), .val (.int (15 : Int32)), .val (.int gp), .val (.int nx)] [(.long (0 : Int64)), (.int gp), (.ref ka)])) t → Steps p.tables e below (T37.setTop (mkF m 105 #[.val (.ref o0), .val (.int u1), .val (.int (15 : Int32)), .val (.int gp), .val (.int nx)] [(.ref ka)])) t := by
          intro t k
          show Steps p.tables e below (T37.setTop (mkF m 105 #[.val (.ref o0), .val (.int u1), .val (.int (15 : Int32)), .val (.int gp), .val (.int nx)] [(.ref ka)])) t
          refine XS.iloadN X37.here hx rfl (hb hby d19_105) rfl ?_
          show Steps p.tables e below (T37.setTop (mkF m 106 #[.val (.ref o0), .val (.int u1), .val (.int (15 : Int32)), .val (.int gp), .val (.int nx)] [(.int gp), (.ref ka)])) t
          refine XS.lconst X37.here hx rfl (hb hby d19_106) ?_
          exact k
        refine OFin.go S38 ?_
        obtain ⟨T39, h39, X39, e39, W39, st39⟩ := wrJ X37 hx hZ e37 Vak (i := gp.toNatClampNeg) hg0 rfl hgl (g := (mkF m 107 #[.val (.ref o0), .val (.int u1), .val (.int (15 : Int32)), .val (.int gp), .val (.int nx)] [(.long (0 : Int64)), (.int gp), (.ref ka)])) rfl rfl (hb hby d19_107)
        have V39 := Vak.set W39
        have N39 := Fr.snoc X39 Nk gek
        have Z39 : n0 ≤ h39.size := Nat.le_trans Zk (wr_le W39)
        have K39 := Keep.wr Kk W39 (Or.inl (List.mem_of_getElem? (i := 1) rfl))
        refine OFin.go st39 ?_
        show OFin p e below _ (T39.setTop (mkF m 108 #[.val (.ref o0), .val (.int u1), .val (.int (15 : Int32)), .val (.int gp), .val (.int nx)] []))
        have S40 : ∀ t, Steps p.tables e below (T39.setTop (mkF m 109 #[.val (.ref o0), .val (.int u1), .val (.int (15 : Int32)), .val (.int gp), .val (.int nx)] [(.ref o0)])) t → Steps p.tables e below (T39.setTop (mkF m 108 #[.val (.ref o0), .val (.int u1), .val (.int (15 : Int32)), .val (.int gp), .val (.int nx)] [])) t := by
          intro t k
          show Steps p.tables e below (T39.setTop (mkF m 108 #[.val (.ref o0), .val (.int u1), .val (.int (15 : Int32)), .val (.int gp), .val (.int nx)] [])) t
          refine XS.aloadN X39.here hx rfl (hb hby d19_108) rfl rfl ?_
          exact k
        refine OFin.go S40 ?_
        have F41 := Fvk.other W39 (Or.inl nok)
        obtain ⟨T42, X42, e42, st42⟩ := getF X39 hx hZ hown (host := "") (Or.inl (hw _ (List.mem_of_getElem? (i := 76) rfl))) Via.refl e39 F41 (g := (mkF m 109 #[.val (.ref o0), .val (.int u1), .val (.int (15 : Int32)), .val (.int gp), .val (.int nx)] [(.ref o0)])) rfl rfl (hb hby d19_109)
        refine OFin.go st42 ?_
        show OFin p e below _ (T42.setTop (mkF m 112 #[.val (.ref o0), .val (.int u1), .val (.int (15 : Int32)), .val (.int gp), .val (.int nx)] [(.ref va)]))
        refine OFin.go (fun t k => ?_ : ∀ t, Steps p.tables e below (T42.setTop (mkF m 115 #[.val (.ref o0), .val (.int u1), .val (.int (15 : Int32)), .val (.int gp), .val (.int nx)] [])) t → Steps p.tables e below (T42.setTop (mkF m 112 #[.val (.ref o0), .val (.int u1), .val (.int (15 : Int32)), .val (.int gp), .val (.int nx)] [(.ref va)])) t) ?_
        · show Steps p.tables e below (T42.setTop (mkF m 112 #[.val (.ref o0), .val (.int u1), .val (.int (15 : Int32)), .val (.int gp), .val (.int nx)] [(.ref va)])) t
          refine XS.ifnullNo X42.here hx rfl (hb hby d19_112) rfl ?_
          exact k
        have S43 : ∀ t, Steps p.tables e below (T42.setTop (mkF m 116 #[.val (.ref o0), .val (.int u1), .val (.int (15 : Int32)), .val (.int gp), .val (.int nx)] [(.ref o0)])) t → Steps p.tables e below (T42.setTop (mkF m 115 #[.val (.ref o0), .val (.int u1), .val (.int (15 : Int32)), .val (.int gp), .val (.int nx)] [])) t := by
          intro t k
          show Steps p.tables e below (T42.setTop (mkF m 115 #[.val (.ref o0), .val (.int u1), .val (.int (15 : Int32)), .val (.int gp), .val (.int nx)] [])) t
          refine XS.aloadN X42.here hx rfl (hb hby d19_115) rfl rfl ?_
          exact k
        refine OFin.go S43 ?_
        obtain ⟨T44, X44, e44, st44⟩ := getF X42 hx hZ hown (host := "") (Or.inl (hw _ (List.mem_of_getElem? (i := 76) rfl))) Via.refl e42 F41 (g := (mkF m 116 #[.val (.ref o0), .val (.int u1), .val (.int (15 : Int32)), .val (.int gp), .val (.int nx)] [(.ref o0)])) rfl rfl (hb hby d19_116)
        refine OFin.go st44 ?_
        show OFin p e below _ (T44.setTop (mkF m 119 #[.val (.ref o0), .val (.int u1), .val (.int (15 : Int32)), .val (.int gp), .val (.int nx)] [(.ref va)]))
        have S45 : ∀ t, Steps p.tables e below (T44.setTop (mkF m 121 #[.val (.ref o0), .val (.int u1), .val (.int (15 : Int32)), .val (.int gp), .val (.int nx)] [(.long (0 : Int64)), (.int gp), (.ref va)])) t → Steps p.tables e below (T44.setTop (mkF m 119 #[.val (.ref o0), .val (.int u1), .val (.int (15 : Int32)), .val (.int gp), .val (.int nx)] [(.ref va)])) t := by
          intro t k
          show Steps p.tables e below (T44.setTop (mkF m 119 #[.val (.ref o0), .val (.int u1), .val (.int (15 : Int32)), .val (.int gp), .val (.int nx)] [(.ref va)])) t
          refine XS.iloadN X44.here hx rfl (hb hby d19_119) rfl ?_
          show Steps p.tables e below (T44.setTop (mkF m 120 #[.val (.ref o0), .val (.int u1), .val (.int (15 : Int32)), .val (.int gp), .val (.int nx)] [(.int gp), (.ref va)])) t
          refine XS.lconst X44.here hx rfl (hb hby d19_120) ?_
          exact k
        refine OFin.go S45 ?_
        have F46 := Vvk.other W39 (Ne.symm nkv)
        obtain ⟨T47, h47, X47, e47, W47, st47⟩ := wrJ X44 hx hZ e44 F46 (i := gp.toNatClampNeg) hg0 rfl hgl (g := (mkF m 121 #[.val (.ref o0), .val (.int u1), .val (.int (15 : Int32)), .val (.int gp), .val (.int nx)] [(.long (0 : Int64)), (.int gp), (.ref va)])) rfl rfl (hb hby d19_121)
        have V47 := F46.set W47
        have N47 := Fr.snoc X47 N39 gev
        have Z47 : n0 ≤ h47.size := Nat.le_trans Z39 (wr_le W47)
        have K47 := Keep.wr K39 W47 (Or.inl (List.mem_of_getElem? (i := 2) rfl))
        refine OFin.go st47 ?_
        show OFin p e below _ (T47.setTop (mkF m 122 #[.val (.ref o0), .val (.int u1), .val (.int (15 : Int32)), .val (.int gp), .val (.int nx)] []))
        have F48 := Ek.wr W39
        have F49 := F48.wr W47
        have F50 := Fkk.other W39 (Or.inl nok)
        have F51 := F50.other W47 (Or.inl nov)
        have F52 := F41.other W47 (Or.inl nov)
        have F53 := Fsk.other W39 (Or.inl nok)
        have F54 := F53.other W47 (Or.inl nov)
        have F55 := Ftk.other W39 (Or.inl nok)
        have F56 := F55.other W47 (Or.inl nov)
        have F57 := V39.other W47 nkv
        exact finV X47 hx Bd.notSynchronized Bd.returns (hb hby d19_122) hce_ hsl_ (by rw [e47]; exact ⟨upd kg gp.toNatClampNeg 0, upd vg gp.toNatClampNeg 0, rfl, N47, K47, (F49), (F51), (F52), (F54), (F56), ((F57).congr (fun i _ => own_updl _ _ _ i)), ((V47).congr (fun i _ => own_updl _ _ _ i)), fun tk' q => (own_freed hm_lt hP hk hu1 rfl hG (by omega) (by rw [← hnx]; exact h34) hO hfw hvz q).1, (own_freed hm_lt hP hk hu1 rfl hG (by omega) (by rw [← hnx]; exact h34) hO hfw hvz (own_t hP hm10).2.2).2, fun q => own_upd0 (hnv q) rfl⟩)
      · -- pc 26: not ((kg nx.toNatClampNeg) = (0 : Int64))
        have S58 : ∀ t, Steps p.tables e below (T32.setTop (mkF m 29 #[.val (.ref o0), .val (.int u1), .val (.int (15 : Int32)), .val (.int gp), .val (.int nx)] [])) t → Steps p.tables e below (T32.setTop (mkF m 26 #[.val (.ref o0), .val (.int u1), .val (.int (15 : Int32)), .val (.int gp), .val (.int nx)] [(.int (lcmpW (kg nx.toNatClampNeg) (0 : Int64)))])) t := by
          intro t k
          show Steps p.tables e below (T32.setTop (mkF m 26 #[.val (.ref o0), .val (.int u1), .val (.int (15 : Int32)), .val (.int gp), .val (.int nx)] [(.int (lcmpW (kg nx.toNatClampNeg) (0 : Int64)))])) t
          refine XS.ifNo X32.here hx rfl (hb hby d19_26) rfl (lc_eq_f h34) ?_
          exact k
        refine OFin.go S58 ?_
        have S59 : ∀ t, Steps p.tables e below (T32.setTop (mkF m 33 #[.val (.ref o0), .val (.int u1), .val (.int (15 : Int32)), .val (.int gp), .val (.int nx)] [(.ref o0), (.ref o0), (.int nx)])) t → Steps p.tables e below (T32.setTop (mkF m 29 #[.val (.ref o0), .val (.int u1), .val (.int (15 : Int32)), .val (.int gp), .val (.int nx)] [])) t := by
          intro t k
          show Steps p.tables e below (T32.setTop (mkF m 29 #[.val (.ref o0), .val (.int u1), .val (.int (15 : Int32)), .val (.int gp), .val (.int nx)] [])) t
          refine XS.iload X32.here hx rfl (hb hby d19_29) rfl ?_
          show Steps p.tables e below (T32.setTop (mkF m 31 #[.val (.ref o0), .val (.int u1), .val (.int (15 : Int32)), .val (.int gp), .val (.int nx)] [(.int nx)])) t
          refine XS.aloadN X32.here hx rfl (hb hby d19_31) rfl rfl ?_
          show Steps p.tables e below (T32.setTop (mkF m 32 #[.val (.ref o0), .val (.int u1), .val (.int (15 : Int32)), .val (.int gp), .val (.int nx)] [(.ref o0), (.int nx)])) t
          refine XS.aloadN X32.here hx rfl (hb hby d19_32) rfl rfl ?_
          exact k
        refine OFin.go S59 ?_
        obtain ⟨T60, X60, e60, st60⟩ := getF X32 hx hZ hown (host := "") (Or.inl (hw _ (List.mem_of_getElem? (i := 20) rfl))) Via.refl e32 Fkk (g := (mkF m 33 #[.val (.ref o0), .val (.int u1), .val (.int (15 : Int32)), .val (.int gp), .val (.int nx)] [(.ref o0), (.ref o0), (.int nx)])) rfl rfl (hb hby d19_33)
        refine OFin.go st60 ?_
        show OFin p e below _ (T60.setTop (mkF m 36 #[.val (.ref o0), .val (.int u1), .val (.int (15 : Int32)), .val (.int gp), .val (.int nx)] [(.ref ka), (.ref o0), (.int nx)]))
        have S61 : ∀ t, Steps p.tables e below (T60.setTop (mkF m 39 #[.val (.ref o0), .val (.int u1), .val (.int (15 : Int32)), .val (.int gp), .val (.int nx)] [(.long (kg nx.toNatClampNeg)), (.ref o0), (.int nx)])) t → Steps p.tables e below (T60.setTop (mkF m 36 #[.val (.ref o0), .val (.int u1), .val (.int (15 : Int32)), .val (.int gp), .val (.int nx)] [(.ref ka), (.ref o0), (.int nx)])) t := by
          intro t k
          show Steps p.tables e below (T60.setTop (mkF m 36 #[.val (.ref o0), .val (.int u1), .val (.int (15 : Int32)), .val (.int gp), .val (.int nx)] [(.ref ka), (.ref o0), (.int nx)])) t
          refine XS.iload X60.here hx rfl (hb hby d19_36) rfl ?_
          show Steps p.tables e below (T60.setTop (mkF m 38 #[.val (.ref o0), .val (.int u1), .val (.int (15 : Int32)), .val (.int gp), .val (.int nx)] [(.int nx), (.ref ka), (.ref o0), (.int nx)])) t
          refine rdJ X60 hx hZ e60 Vak (i := nx.toNatClampNeg) hn0 rfl hnl (x := (.long (kg nx.toNatClampNeg))) rfl (g := (mkF m 38 #[.val (.ref o0), .val (.int u1), .val (.int (15 : Int32)), .val (.int gp), .val (.int nx)] [(.int nx), (.ref ka), (.ref o0), (.int nx)])) rfl rfl (hb hby d19_38) ?_
          exact k
        refine OFin.go S61 ?_
        obtain ⟨_, T62, Lc62, X62, hQ62, st62⟩ := privQ X60 hx hZ (y := (⟨"com/example/clockwrap/clockwrap/store/LongTable$Part", "home", "(J)I"⟩ : MethodName)) hown (hw _ (List.mem_of_getElem? (i := 57) rfl)) (hw _ (List.mem_of_getElem? (i := 58) rfl)) (hw _ (List.mem_of_getElem? (i := 14) rfl)) (hw _ (List.mem_of_getElem? (i := 60) rfl)) (hw _ (List.mem_of_getElem? (i := 59) rfl)) (hw _ (List.mem_of_getElem? (i := 13) rfl)) (by decide) Ek (argsL := [(.long (kg nx.toNatClampNeg))]) (rest := [(.int nx)]) (rm11 l Z a0 hw [] o0 (kg nx.toNatClampNeg) Hk n0 Zk Fsk) (W := 1) (by decide) (by decide) e60 (g := (mkF m 39 #[.val (.ref o0), .val (.int u1), .val (.int (15 : Int32)), .val (.int gp), .val (.int nx)] [(.long (kg nx.toNatClampNeg)), (.ref o0), (.int nx)])) rfl (by rw [hml]; rfl) (lenOf pd_1 rfl) rfl (by show 2 * 0 + _ ≤ _; exact Nat.le_of_eq rfl) (hb hby d19_39) (by first | exact Nat.le_of_ble_eq_true rfl | exact hce_) (by first | exact Nat.le_of_ble_eq_true rfl | exact hsl_)
        obtain ⟨rfl, N62q, e62⟩ := hQ62
        have N62 := Fr.app Nk N62q
        refine OFin.go st62 ?_
        show OFin p e below _ (T62.setTop (mkF m 42 #[.val (.ref o0), .val (.int u1), .val (.int (15 : Int32)), .val (.int gp), .val (.int nx)] [(.int (hmI (kg nx.toNatClampNeg))), (.int nx)]))
        have S63 : ∀ t, Steps p.tables e below (T62.setTop (mkF m 51 #[.val (.ref o0), .val (.int u1), .val (.int (15 : Int32)), .val (.int gp), .val (.int nx)] [(.int ((nx - gp) &&& (15 : Int32))), (.int ((nx - (hmI (kg nx.toNatClampNeg))) &&& (15 : Int32)))])) t → Steps p.tables e below (T62.setTop (mkF m 42 #[.val (.ref o0), .val (.int u1), .val (.int (15 : Int32)), .val (.int gp), .val (.int nx)] [(.int (hmI (kg nx.toNatClampNeg))), (.int nx)])) t := by
          intro t k
          show Steps p.tables e below (T62.setTop (mkF m 42 #[.val (.ref o0), .val (.int u1), .val (.int (15 : Int32)), .val (.int gp), .val (.int nx)] [(.int (hmI (kg nx.toNatClampNeg))), (.int nx)])) t
          refine XS.isub X62.here hx rfl (hb hby d19_42) rfl ?_
          show Steps p.tables e below (T62.setTop (mkF m 43 #[.val (.ref o0), .val (.int u1), .val (.int (15 : Int32)), .val (.int gp), .val (.int nx)] [(.int (nx - (hmI (kg nx.toNatClampNeg))))])) t
          refine XS.iloadN X62.here hx rfl (hb hby d19_43) rfl ?_
          show Steps p.tables e below (T62.setTop (mkF m 44 #[.val (.ref o0), .val (.int u1), .val (.int (15 : Int32)), .val (.int gp), .val (.int nx)] [(.int (15 : Int32)), (.int (nx - (hmI (kg nx.toNatClampNeg))))])) t
          refine XS.iand X62.here hx rfl (hb hby d19_44) rfl ?_
          show Steps p.tables e below (T62.setTop (mkF m 45 #[.val (.ref o0), .val (.int u1), .val (.int (15 : Int32)), .val (.int gp), .val (.int nx)] [(.int ((nx - (hmI (kg nx.toNatClampNeg))) &&& (15 : Int32)))])) t
          refine XS.iload X62.here hx rfl (hb hby d19_45) rfl ?_
          show Steps p.tables e below (T62.setTop (mkF m 47 #[.val (.ref o0), .val (.int u1), .val (.int (15 : Int32)), .val (.int gp), .val (.int nx)] [(.int nx), (.int ((nx - (hmI (kg nx.toNatClampNeg))) &&& (15 : Int32)))])) t
          refine XS.iloadN X62.here hx rfl (hb hby d19_47) rfl ?_
          show Steps p.tables e below (T62.setTop (mkF m 48 #[.val (.ref o0), .val (.int u1), .val (.int (15 : Int32)), .val (.int gp), .val (.int nx)] [(.int gp), (.int nx), (.int ((nx - (hmI (kg nx.toNatClampNeg))) &&& (15 : Int32)))])) t
          refine XS.isub X62.here hx rfl (hb hby d19_48) rfl ?_
          show Steps p.tables e below (T62.setTop (mkF m 49 #[.val (.ref o0), .val (.int u1), .val (.int (15 : Int32)), .val (.int gp), .val (.int nx)] [(.int (nx - gp)), (.int ((nx - (hmI (kg nx.toNatClampNeg))) &&& (15 : Int32)))])) t
          refine XS.iloadN X62.here hx rfl (hb hby d19_49) rfl ?_
          show Steps p.tables e below (T62.setTop (mkF m 50 #[.val (.ref o0), .val (.int u1), .val (.int (15 : Int32)), .val (.int gp), .val (.int nx)] [(.int (15 : Int32)), (.int (nx - gp)), (.int ((nx - (hmI (kg nx.toNatClampNeg))) &&& (15 : Int32)))])) t
          refine XS.iand X62.here hx rfl (hb hby d19_50) rfl ?_
          exact k
        refine OFin.go S63 ?_
        by_cases h64 : (((nx - (hmI (kg nx.toNatClampNeg))) &&& (15 : Int32)) < ((nx - gp) &&& (15 : Int32)))
        · -- pc 51: (((nx - (hmI (kg nx.toNatClampNeg))) &&& (15 : Int32)) < ((nx - gp) &&& (15 : Int32)))
          have S65 : ∀ t, Steps p.tables e below (T62.setTop (mkF m 90 #[.val (.ref o0), .val (.int u1), .val (.int (15 : Int32)), .val (.int gp), .val (.int nx)] [])) t → Steps p.tables e below (T62.setTop (mkF m 51 #[.val (.ref o0), .val (.int u1), .val (.int (15 : Int32)), .val (.int gp), .val (.int nx)] [(.int ((nx - gp) &&& (15 : Int32))), (.int ((nx - (hmI (kg nx.toNatClampNeg))) &&& (15 : Int32)))])) t := by
            intro t k
            show Steps p.tables e below (T62.setTop (mkF m 51 #[.val (.ref o0), .val (.int u1), .val (.int (15 : Int32)), .val (.int gp), .val (.int nx)] [(.int ((nx - gp) &&& (15 : Int32))), (.int ((nx - (hmI (kg nx.toNatClampNeg))) &&& (15 : Int32)))])) t
            refine XS.icmpYes X62.here hx rfl (pc0 := 51) (pc' := 90) rfl (hb hby d19_51) rfl (tlt h64).1 (by decide) (by decide) ?_
            exact k
          refine OFin.go S65 ?_
          have S66 : ∀ t, Steps p.tables e below (T62.setTop (mkF m 17 #[.val (.ref o0), .val (.int u1), .val (.int (15 : Int32)), .val (.int gp), .val (.int ((nx + (1 : Int32)) &&& (15 : Int32)))] [])) t → Steps p.tables e below (T62.setTop (mkF m 90 #[.val (.ref o0), .val (.int u1), .val (.int (15 : Int32)), .val (.int gp), .val (.int nx)] [])) t := by
            intro t k
            show Steps p.tables e below (T62.setTop (mkF m 90 #[.val (.ref o0), .val (.int u1), .val (.int (15 : Int32)), .val (.int gp), .val (.int nx)] [])) t
            refine XS.iload X62.here hx rfl (hb hby d19_90) rfl ?_
            show Steps p.tables e below (T62.setTop (mkF m 92 #[.val (.ref o0), .val (.int u1), .val (.int (15 : Int32)), .val (.int gp), .val (.int nx)] [(.int nx)])) t
            refine XS.iconst X62.here hx rfl (hb hby d19_92) ?_
            show Steps p.tables e below (T62.setTop (mkF m 93 #[.val (.ref o0), .val (.int u1), .val (.int (15 : Int32)), .val (.int gp), .val (.int nx)] [(.int (1 : Int32)), (.int nx)])) t
            refine XS.iadd X62.here hx rfl (hb hby d19_93) rfl ?_
            show Steps p.tables e below (T62.setTop (mkF m 94 #[.val (.ref o0), .val (.int u1), .val (.int (15 : Int32)), .val (.int gp), .val (.int nx)] [(.int (nx + (1 : Int32)))])) t
            refine XS.iloadN X62.here hx rfl (hb hby d19_94) rfl ?_
            show Steps p.tables e below (T62.setTop (mkF m 95 #[.val (.ref o0), .val (.int u1), .val (.int (15 : Int32)), .val (.int gp), .val (.int nx)] [(.int (15 : Int32)), (.int (nx + (1 : Int32)))])) t
            refine XS.iand X62.here hx rfl (hb hby d19_95) rfl ?_
            show Steps p.tables e below (T62.setTop (mkF m 96 #[.val (.ref o0), .val (.int u1), .val (.int (15 : Int32)), .val (.int gp), .val (.int nx)] [(.int ((nx + (1 : Int32)) &&& (15 : Int32)))])) t
            refine XS.istore X62.here hx rfl (hb hby d19_96) rfl (l' := #[.val (.ref o0), .val (.int u1), .val (.int (15 : Int32)), .val (.int gp), .val (.int ((nx + (1 : Int32)) &&& (15 : Int32)))]) rfl ?_
            show Steps p.tables e below (T62.setTop (mkF m 98 #[.val (.ref o0), .val (.int u1), .val (.int (15 : Int32)), .val (.int gp), .val (.int ((nx + (1 : Int32)) &&& (15 : Int32)))] [])) t
            refine XS.goto X62.here hx rfl (pc0 := 98) (pc' := 17) rfl (hb hby d19_98) (by decide) (by decide) ?_
            exact k
          refine OFin.go S66 ?_
          exact ih T62 _ _ _ X62 _ e62 N62 (by first | assumption | decide) (by first | assumption | decide) Zk Kk gp ((nx + (1 : Int32)) &&& (15 : Int32)) kg vg (ii + 1) (Ek) (Fkk) (Fvk) (Fsk) (Ftk) (Vak) (Vvk) ⟨hg0, (own_nx hn0 hnl).1, by rw [(own_nx hn0 hnl).2]; omega, by omega, by rw [(own_nx hn0 hnl).2]; omega, own_skipW hg0 hn0 hnx (by omega) hG h34 h64, hO, hfw, hvz, hnv⟩
        · -- pc 51: not (((nx - (hmI (kg nx.toNatClampNeg))) &&& (15 : Int32)) < ((nx - gp) &&& (15 : Int32)))
          have S67 : ∀ t, Steps p.tables e below (T62.setTop (mkF m 54 #[.val (.ref o0), .val (.int u1), .val (.int (15 : Int32)), .val (.int gp), .val (.int nx)] [])) t → Steps p.tables e below (T62.setTop (mkF m 51 #[.val (.ref o0), .val (.int u1), .val (.int (15 : Int32)), .val (.int gp), .val (.int nx)] [(.int ((nx - gp) &&& (15 : Int32))), (.int ((nx - (hmI (kg nx.toNatClampNeg))) &&& (15 : Int32)))])) t := by
            intro t k
            show Steps p.tables e below (T62.setTop (mkF m 51 #[.val (.ref o0), .val (.int u1), .val (.int (15 : Int32)), .val (.int gp), .val (.int nx)] [(.int ((nx - gp) &&& (15 : Int32))), (.int ((nx - (hmI (kg nx.toNatClampNeg))) &&& (15 : Int32)))])) t
            refine XS.icmpNo X62.here hx rfl (hb hby d19_51) rfl (flt h64).1 ?_
            exact k
          refine OFin.go S67 ?_
          have S68 : ∀ t, Steps p.tables e below (T62.setTop (mkF m 55 #[.val (.ref o0), .val (.int u1), .val (.int (15 : Int32)), .val (.int gp), .val (.int nx)] [(.ref o0)])) t → Steps p.tables e below (T62.setTop (mkF m 54 #[.val (.ref o0), .val (.int u1), .val (.int (15 : Int32)), .val (.int gp), .val (.int nx)] [])) t := by
            intro t k
            show Steps p.tables e below (T62.setTop (mkF m 54 #[.val (.ref o0), .val (.int u1), .val (.int (15 : Int32)), .val (.int gp), .val (.int nx)] [])) t
            refine XS.aloadN X62.here hx rfl (hb hby d19_54) rfl rfl ?_
            exact k
          refine OFin.go S68 ?_
          obtain ⟨T69, X69, e69, st69⟩ := getF X62 hx hZ hown (host := "") (Or.inl (hw _ (List.mem_of_getElem? (i := 20) rfl))) Via.refl e62 Fkk (g := (mkF m 55 #[.val (.ref o0), .val (.int u1), .val (.int (15 : Int32)), .val (.int gp), .val (.int nx)] [(.ref o0)])) rfl rfl (hb hby d19_55)
          refine OFin.go st69 ?_
          show OFin p e below _ (T69.setTop (mkF m 58 #[.val (.ref o0), .val (.int u1), .val (.int (15 : Int32)), .val (.int gp), .val (.int nx)] [(.ref ka)]))
          have S70 : ∀ t, Steps p.tables e below (T69.setTop (mkF m 60 #[.val (.ref o0), .val (.int u1), .val (.int (15 : Int32)), .val (.int gp), .val (.int nx)] [(.ref o0), (.int gp), (.ref ka)])) t → Steps p.tables e below (T69.setTop (mkF m 58 #[.val (.ref o0), .val (.int u1), .val (.int (15 : Int32)), .val (.int gp), .val (.int nx)] [(.ref ka)])) t := by
            intro t k
            show Steps p.tables e below (T69.setTop (mkF m 58 #[.val (.ref o0), .val (.int u1), .val (.int (15 : Int32)), .val (.int gp), .val (.int nx)] [(.ref ka)])) t
            refine XS.iloadN X69.here hx rfl (hb hby d19_58) rfl ?_
            show Steps p.tables e below (T69.setTop (mkF m 59 #[.val (.ref o0), .val (.int u1), .val (.int (15 : Int32)), .val (.int gp), .val (.int nx)] [(.int gp), (.ref ka)])) t
            refine XS.aloadN X69.here hx rfl (hb hby d19_59) rfl rfl ?_
            exact k
          refine OFin.go S70 ?_
          obtain ⟨T71, X71, e71, st71⟩ := getF X69 hx hZ hown (host := "") (Or.inl (hw _ (List.mem_of_getElem? (i := 20) rfl))) Via.refl e69 Fkk (g := (mkF m 60 #[.val (.ref o0), .val (.int u1), .val (.int (15 : Int32)), .val (.int gp), .val (.int nx)] [(.ref o0), (.int gp), (.ref ka)])) rfl rfl (hb hby d19_60)
          refine OFin.go st71 ?_
          show OFin p e below _ (T71.setTop (mkF m 63 #[.val (.ref o0), .val (.int u1), .val (.int (15 : Int32)), .val (.int gp), .val (.int nx)] [(.ref ka), (.int gp), (.ref ka)]))
          have S72 : ∀ t, Steps p.tables e below (T71.setTop (mkF m 66 #[.val (.ref o0), .val (.int u1), .val (.int (15 : Int32)), .val (.int gp), .val (.int nx)] [(.long (kg nx.toNatClampNeg)), (.int gp), (.ref ka)])) t → Steps p.tables e below (T71.setTop (mkF m 63 #[.val (.ref o0), .val (.int u1), .val (.int (15 : Int32)), .val (.int gp), .val (.int nx)] [(.ref ka), (.int gp), (.ref ka)])) t := by
            intro t k
            show Steps p.tables e below (T71.setTop (mkF m 63 #[.val (.ref o0), .val (.int u1), .val (.int (15 : Int32)), .val (.int gp), .val (.int nx)] [(.ref ka), (.int gp), (.ref ka)])) t
            refine XS.iload X71.here hx rfl (hb hby d19_63) rfl ?_
            show Steps p.tables e below (T71.setTop (mkF m 65 #[.val (.ref o0), .val (.int u1), .val (.int (15 : Int32)), .val (.int gp), .val (.int nx)] [(.int nx), (.ref ka), (.int gp), (.ref ka)])) t
            refine rdJ X71 hx hZ e71 Vak (i := nx.toNatClampNeg) hn0 rfl hnl (x := (.long (kg nx.toNatClampNeg))) rfl (g := (mkF m 65 #[.val (.ref o0), .val (.int u1), .val (.int (15 : Int32)), .val (.int gp), .val (.int nx)] [(.int nx), (.ref ka), (.int gp), (.ref ka)])) rfl rfl (hb hby d19_65) ?_
            exact k
          refine OFin.go S72 ?_
          obtain ⟨T73, h73, X73, e73, W73, st73⟩ := wrJ X71 hx hZ e71 Vak (i := gp.toNatClampNeg) hg0 rfl hgl (g := (mkF m 66 #[.val (.ref o0), .val (.int u1), .val (.int (15 : Int32)), .val (.int gp), .val (.int nx)] [(.long (kg nx.toNatClampNeg)), (.int gp), (.ref ka)])) rfl rfl (hb hby d19_66)
          have V73 := Vak.set W73
          have N73 := Fr.snoc X73 N62 gek
          have Z73 : n0 ≤ h73.size := Nat.le_trans Zk (wr_le W73)
          have K73 := Keep.wr Kk W73 (Or.inl (List.mem_of_getElem? (i := 1) rfl))
          refine OFin.go st73 ?_
          show OFin p e below _ (T73.setTop (mkF m 67 #[.val (.ref o0), .val (.int u1), .val (.int (15 : Int32)), .val (.int gp), .val (.int nx)] []))
          have S74 : ∀ t, Steps p.tables e below (T73.setTop (mkF m 68 #[.val (.ref o0), .val (.int u1), .val (.int (15 : Int32)), .val (.int gp), .val (.int nx)] [(.ref o0)])) t → Steps p.tables e below (T73.setTop (mkF m 67 #[.val (.ref o0), .val (.int u1), .val (.int (15 : Int32)), .val (.int gp), .val (.int nx)] [])) t := by
            intro t k
            show Steps p.tables e below (T73.setTop (mkF m 67 #[.val (.ref o0), .val (.int u1), .val (.int (15 : Int32)), .val (.int gp), .val (.int nx)] [])) t
            refine XS.aloadN X73.here hx rfl (hb hby d19_67) rfl rfl ?_
            exact k
          refine OFin.go S74 ?_
          have F75 := Fvk.other W73 (Or.inl nok)
          obtain ⟨T76, X76, e76, st76⟩ := getF X73 hx hZ hown (host := "") (Or.inl (hw _ (List.mem_of_getElem? (i := 76) rfl))) Via.refl e73 F75 (g := (mkF m 68 #[.val (.ref o0), .val (.int u1), .val (.int (15 : Int32)), .val (.int gp), .val (.int nx)] [(.ref o0)])) rfl rfl (hb hby d19_68)
          refine OFin.go st76 ?_
          show OFin p e below _ (T76.setTop (mkF m 71 #[.val (.ref o0), .val (.int u1), .val (.int (15 : Int32)), .val (.int gp), .val (.int nx)] [(.ref va)]))
          refine OFin.go (fun t k => ?_ : ∀ t, Steps p.tables e below (T76.setTop (mkF m 74 #[.val (.ref o0), .val (.int u1), .val (.int (15 : Int32)), .val (.int gp), .val (.int nx)] [])) t → Steps p.tables e below (T76.setTop (mkF m 71 #[.val (.ref o0), .val (.int u1), .val (.int (15 : Int32)), .val (.int gp), .val (.int nx)] [(.ref va)])) t) ?_
          · show Steps p.tables e below (T76.setTop (mkF m 71 #[.val (.ref o0), .val (.int u1), .val (.int (15 : Int32)), .val (.int gp), .val (.int nx)] [(.ref va)])) t
            refine XS.ifnullNo X76.here hx rfl (hb hby d19_71) rfl ?_
            exact k
          have S77 : ∀ t, Steps p.tables e below (T76.setTop (mkF m 75 #[.val (.ref o0), .val (.int u1), .val (.int (15 : Int32)), .val (.int gp), .val (.int nx)] [(.ref o0)])) t → Steps p.tables e below (T76.setTop (mkF m 74 #[.val (.ref o0), .val (.int u1), .val (.int (15 : Int32)), .val (.int gp), .val (.int nx)] [])) t := by
            intro t k
            show Steps p.tables e below (T76.setTop (mkF m 74 #[.val (.ref o0), .val (.int u1), .val (.int (15 : Int32)), .val (.int gp), .val (.int nx)] [])) t
            refine XS.aloadN X76.here hx rfl (hb hby d19_74) rfl rfl ?_
            exact k
          refine OFin.go S77 ?_
          obtain ⟨T78, X78, e78, st78⟩ := getF X76 hx hZ hown (host := "") (Or.inl (hw _ (List.mem_of_getElem? (i := 76) rfl))) Via.refl e76 F75 (g := (mkF m 75 #[.val (.ref o0), .val (.int u1), .val (.int (15 : Int32)), .val (.int gp), .val (.int nx)] [(.ref o0)])) rfl rfl (hb hby d19_75)
          refine OFin.go st78 ?_
          show OFin p e below _ (T78.setTop (mkF m 78 #[.val (.ref o0), .val (.int u1), .val (.int (15 : Int32)), .val (.int gp), .val (.int nx)] [(.ref va)]))
          have S79 : ∀ t, Steps p.tables e below (T78.setTop (mkF m 80 #[.val (.ref o0), .val (.int u1), .val (.int (15 : Int32)), .val (.int gp), .val (.int nx)] [(.ref o0), (.int gp), (.ref va)])) t → Steps p.tables e below (T78.setTop (mkF m 78 #[.val (.ref o0), .val (.int u1), .val (.int (15 : Int32)), .val (.int gp), .val (.int nx)] [(.ref va)])) t := by
            intro t k
            show Steps p.tables e below (T78.setTop (mkF m 78 #[.val (.ref o0), .val (.int u1), .val (.int (15 : Int32)), .val (.int gp), .val (.int nx)] [(.ref va)])) t
            refine XS.iloadN X78.here hx rfl (hb hby d19_78) rfl ?_
            show Steps p.tables e below (T78.setTop (mkF m 79 #[.val (.ref o0), .val (.int u1), .val (.int (15 : Int32)), .val (.int gp), .val (.int nx)] [(.int gp), (.ref va)])) t
            refine XS.aloadN X78.here hx rfl (hb hby d19_79) rfl rfl ?_
            exact k
          refine OFin.go S79 ?_
          obtain ⟨T80, X80, e80, st80⟩ := getF X78 hx hZ hown (host := "") (Or.inl (hw _ (List.mem_of_getElem? (i := 76) rfl))) Via.refl e78 F75 (g := (mkF m 80 #[.val (.ref o0), .val (.int u1), .val (.int (15 : Int32)), .val (.int gp), .val (.int nx)] [(.ref o0), (.int gp), (.ref va)])) rfl rfl (hb hby d19_80)
          refine OFin.go st80 ?_
          show OFin p e below _ (T80.setTop (mkF m 83 #[.val (.ref o0), .val (.int u1), .val (.int (15 : Int32)), .val (.int gp), .val (.int nx)] [(.ref va), (.int gp), (.ref va)]))
          have F81 := Vvk.other W73 (Ne.symm nkv)
          have S82 : ∀ t, Steps p.tables e below (T80.setTop (mkF m 86 #[.val (.ref o0), .val (.int u1), .val (.int (15 : Int32)), .val (.int gp), .val (.int nx)] [(.long (vg nx.toNatClampNeg)), (.int gp), (.ref va)])) t → Steps p.tables e below (T80.setTop (mkF m 83 #[.val (.ref o0), .val (.int u1), .val (.int (15 : Int32)), .val (.int gp), .val (.int nx)] [(.ref va), (.int gp), (.ref va)])) t := by
            intro t k
            show Steps p.tables e below (T80.setTop (mkF m 83 #[.val (.ref o0), .val (.int u1), .val (.int (15 : Int32)), .val (.int gp), .val (.int nx)] [(.ref va), (.int gp), (.ref va)])) t
            refine XS.iload X80.here hx rfl (hb hby d19_83) rfl ?_
            show Steps p.tables e below (T80.setTop (mkF m 85 #[.val (.ref o0), .val (.int u1), .val (.int (15 : Int32)), .val (.int gp), .val (.int nx)] [(.int nx), (.ref va), (.int gp), (.ref va)])) t
            refine rdJ X80 hx hZ e80 F81 (i := nx.toNatClampNeg) hn0 rfl hnl (x := (.long (vg nx.toNatClampNeg))) rfl (g := (mkF m 85 #[.val (.ref o0), .val (.int u1), .val (.int (15 : Int32)), .val (.int gp), .val (.int nx)] [(.int nx), (.ref va), (.int gp), (.ref va)])) rfl rfl (hb hby d19_85) ?_
            exact k
          refine OFin.go S82 ?_
          obtain ⟨T83, h83, X83, e83, W83, st83⟩ := wrJ X80 hx hZ e80 F81 (i := gp.toNatClampNeg) hg0 rfl hgl (g := (mkF m 86 #[.val (.ref o0), .val (.int u1), .val (.int (15 : Int32)), .val (.int gp), .val (.int nx)] [(.long (vg nx.toNatClampNeg)), (.int gp), (.ref va)])) rfl rfl (hb hby d19_86)
          have V83 := F81.set W83
          have N83 := Fr.snoc X83 N73 gev
          have Z83 : n0 ≤ h83.size := Nat.le_trans Z73 (wr_le W83)
          have K83 := Keep.wr K73 W83 (Or.inl (List.mem_of_getElem? (i := 2) rfl))
          refine OFin.go st83 ?_
          show OFin p e below _ (T83.setTop (mkF m 87 #[.val (.ref o0), .val (.int u1), .val (.int (15 : Int32)), .val (.int gp), .val (.int nx)] []))
          have S84 : ∀ t, Steps p.tables e below (T83.setTop (mkF m 17 #[.val (.ref o0), .val (.int u1), .val (.int (15 : Int32)), .val (.int nx), .val (.int ((nx + (1 : Int32)) &&& (15 : Int32)))] [])) t → Steps p.tables e below (T83.setTop (mkF m 87 #[.val (.ref o0), .val (.int u1), .val (.int (15 : Int32)), .val (.int gp), .val (.int nx)] [])) t := by
            intro t k
            show Steps p.tables e below (T83.setTop (mkF m 87 #[.val (.ref o0), .val (.int u1), .val (.int (15 : Int32)), .val (.int gp), .val (.int nx)] [])) t
            refine XS.iload X83.here hx rfl (hb hby d19_87) rfl ?_
            show Steps p.tables e below (T83.setTop (mkF m 89 #[.val (.ref o0), .val (.int u1), .val (.int (15 : Int32)), .val (.int gp), .val (.int nx)] [(.int nx)])) t
            refine XS.istoreN X83.here hx rfl (hb hby d19_89) rfl (l' := #[.val (.ref o0), .val (.int u1), .val (.int (15 : Int32)), .val (.int nx), .val (.int nx)]) rfl ?_
            show Steps p.tables e below (T83.setTop (mkF m 90 #[.val (.ref o0), .val (.int u1), .val (.int (15 : Int32)), .val (.int nx), .val (.int nx)] [])) t
            refine XS.iload X83.here hx rfl (hb hby d19_90) rfl ?_
            show Steps p.tables e below (T83.setTop (mkF m 92 #[.val (.ref o0), .val (.int u1), .val (.int (15 : Int32)), .val (.int nx), .val (.int nx)] [(.int nx)])) t
            refine XS.iconst X83.here hx rfl (hb hby d19_92) ?_
            show Steps p.tables e below (T83.setTop (mkF m 93 #[.val (.ref o0), .val (.int u1), .val (.int (15 : Int32)), .val (.int nx), .val (.int nx)] [(.int (1 : Int32)), (.int nx)])) t
            refine XS.iadd X83.here hx rfl (hb hby d19_93) rfl ?_
            show Steps p.tables e below (T83.setTop (mkF m 94 #[.val (.ref o0), .val (.int u1), .val (.int (15 : Int32)), .val (.int nx), .val (.int nx)] [(.int (nx + (1 : Int32)))])) t
            refine XS.iloadN X83.here hx rfl (hb hby d19_94) rfl ?_
            show Steps p.tables e below (T83.setTop (mkF m 95 #[.val (.ref o0), .val (.int u1), .val (.int (15 : Int32)), .val (.int nx), .val (.int nx)] [(.int (15 : Int32)), (.int (nx + (1 : Int32)))])) t
            refine XS.iand X83.here hx rfl (hb hby d19_95) rfl ?_
            show Steps p.tables e below (T83.setTop (mkF m 96 #[.val (.ref o0), .val (.int u1), .val (.int (15 : Int32)), .val (.int nx), .val (.int nx)] [(.int ((nx + (1 : Int32)) &&& (15 : Int32)))])) t
            refine XS.istore X83.here hx rfl (hb hby d19_96) rfl (l' := #[.val (.ref o0), .val (.int u1), .val (.int (15 : Int32)), .val (.int nx), .val (.int ((nx + (1 : Int32)) &&& (15 : Int32)))]) rfl ?_
            show Steps p.tables e below (T83.setTop (mkF m 98 #[.val (.ref o0), .val (.int u1), .val (.int (15 : Int32)), .val (.int nx), .val (.int ((nx + (1 : Int32)) &&& (15 : Int32)))] [])) t
            refine XS.goto X83.here hx rfl (pc0 := 98) (pc' := 17) rfl (hb hby d19_98) (by decide) (by decide) ?_
            exact k
          refine OFin.go S84 ?_
          have F85 := Ek.wr W73
          have F86 := F85.wr W83
          have F87 := Fkk.other W73 (Or.inl nok)
          have F88 := F87.other W83 (Or.inl nov)
          have F89 := F75.other W83 (Or.inl nov)
          have F90 := Fsk.other W73 (Or.inl nok)
          have F91 := F90.other W83 (Or.inl nov)
          have F92 := Ftk.other W73 (Or.inl nok)
          have F93 := F92.other W83 (Or.inl nov)
          have F94 := V73.other W83 nkv
          exact ih T83 _ _ _ X83 _ e83 N83 (by first | assumption | decide) (by first | assumption | decide) Z83 K83 nx ((nx + (1 : Int32)) &&& (15 : Int32)) (upd kg gp.toNatClampNeg (kg nx.toNatClampNeg)) (upd vg gp.toNatClampNeg (vg nx.toNatClampNeg)) 1 (F86) (F88) (F89) (F91) (F93) ((F94).congr (fun i _ => own_updl _ _ _ i)) ((V83).congr (fun i _ => own_updl _ _ _ i)) ⟨hn0, (own_nx hn0 hnl).1, by rw [(own_nx hn0 hnl).2], by omega, by rw [(own_nx hn0 hnl).2]; omega, own_moveW hg0 hn0 hnx (by omega) hG h34 h64, fun k v => (own_moveO hgl hnl (by have := hG.2.1; omega) k v).trans (hO k v), own_moveN hnl hfw hG.2.2.2.1, own_moveV h34 hvz, fun q => own_upd0 (hnv q) (hnv q _)⟩
  exact LOOP4 ((zz + 31 - u1.toNatClampNeg) % 16) T2 _ _ _ X2 _ e2 N0 (by first | assumption | decide) (by first | assumption | decide) Z0 K0 u1 ((u1 + (1 : Int32)) &&& (15 : Int32)) kf vf 1 (E0) (Fk) (Fv) (Fs) (Ft) (Va) (Vv) ⟨hu0, (own_nx hu0 hu1).1, by rw [(own_nx hu0 hu1).2], by have : u1.toNatClampNeg ≠ zz := fun q => hk (by rw [q]; exact hz0); omega, by rw [(own_nx hu0 hu1).2]; omega, own_start hP.1 hP.2.1 hu1 hk, fun _ _ => Iff.rfl, fun _ _ q => q, fun u hu _ e => hP.2.2.2.1 u hu e, fun q => q⟩
theorem ef_rm9_v (m : MethodId) (o0 : Addr) (key : Int64) : entryFrame m #[(.ref o0), (.long key)] 5 = mkF m 0 #[.val (.ref o0), .val (.long key), .second, .unset, .unset] [] := by first | (simp [entryFrame, mkF, argsToLocals, Value.category]; done) | rfl
def Q_rm9_v (Z : State) (o0 : Addr) (key : Int64) (ka va : Addr) (kf vf : Nat → Int64) (tk : Int32) (mm : Nat) (h0 : Heap) (n0 : Nat) (v : Option Value) (h : Heap) (L : List Loc) : Prop := ∃ (b : Int32) (kf' vf' : Nat → Int64) (tk' : Int32), v = some (.int b) ∧ Fr n0 L ∧ Keep h0 h [o0, ka, va] ∧ Exa Z h o0 "com/example/clockwrap/clockwrap/store/LongTable$Part" ∧ Fld Z h o0 "com/example/clockwrap/clockwrap/store/LongTable$Part" "keys" "[J" (.ref ka) ∧ Fld Z h o0 "com/example/clockwrap/clockwrap/store/LongTable$Part" "values" "[J" (.ref va) ∧ Fld Z h o0 "com/example/clockwrap/clockwrap/store/LongTable$Part" "shift" "I" (.int (60 : Int32)) ∧ Fld Z h o0 "com/example/clockwrap/clockwrap/store/LongTable$Part" "taken" "I" (.int tk') ∧ Ara Z h ka .long 16 (fun i => .long (kf' i)) ∧ Ara Z h va .long 16 (fun i => .long (vf' i)) ∧ PI hm kf' vf' tk' (mm + 1) ∧ (∀ kk vv, kk ≠ 0 → (In kf' vf' kk vv ↔ kk ≠ key ∧ In kf vf kk vv)) ∧ ((∀ i, vf i = 0) → ∀ i, vf' i = 0)
set_option maxRecDepth 65536 in
set_option maxHeartbeats 40000000 in
theorem rm9_v (l : Launch) (Z : State) (a0 : Array Value) (hw : ∀ d ∈ tables_1, d.before a0 Z = true) (ws : List Jvm.Cond) (o0 : Addr) (key : Int64) (ka va : Addr) (kf vf : Nat → Int64) (tk : Int32) (mm : Nat) (h0 : Heap) (n0 : Nat) (Z0 : n0 ≤ h0.size) (geo : n0 ≤ o0) (gek : n0 ≤ ka) (nok : o0 ≠ ka) (gev : n0 ≤ va) (nov : o0 ≠ va) (nkv : ka ≠ va) (E0 : Exa Z h0 o0 "com/example/clockwrap/clockwrap/store/LongTable$Part") (Fk : Fld Z h0 o0 "com/example/clockwrap/clockwrap/store/LongTable$Part" "keys" "[J" (.ref ka)) (Fv : Fld Z h0 o0 "com/example/clockwrap/clockwrap/store/LongTable$Part" "values" "[J" (.ref va)) (Fs : Fld Z h0 o0 "com/example/clockwrap/clockwrap/store/LongTable$Part" "shift" "I" (.int (60 : Int32))) (Ft : Fld Z h0 o0 "com/example/clockwrap/clockwrap/store/LongTable$Part" "taken" "I" (.int tk)) (Va : Ara Z h0 ka .long 16 (fun i => .long (kf i))) (Vv : Ara Z h0 va .long 16 (fun i => .long (vf i))) (hP : PI hm kf vf tk mm) (hm10 : mm < 10) (hk : key ≠ 0) :
    MetFree l (⟨"com/example/clockwrap/clockwrap/store/LongTable$Part", "remove", "(J)Z"⟩ : MethodName) (head1 (Jvm.Cond.code (⟨"com/example/clockwrap/clockwrap/store/LongTable$Part", "remove", "(J)Z"⟩ : MethodName) prog_33_method_6_code 5 (some .boolean) :: ws) ({ frames := 2, cells := 0, slots := 0, locals := 40 } : Room)) (fun a U => a = #[(.ref o0), (.long key)] ∧ Z.Warmed39 U.vm ∧ U.heap = h0) (fun _ _ _ _ _ => True) (fun _ U o U' => ∃ v L, o = .returned v ∧ (Q_rm9_v Z o0 key ka va kf vf tk mm h0 n0) v U'.heap L ∧ FrameEnd U o U' L ({ frames := 2, cells := 0, slots := 0, locals := 40 } : Room).cells ({ frames := 2, cells := 0, slots := 0, locals := 40 } : Room).slots) := by
  refine MetFree.of_bodySF (plainFor_of_name pn_1) hisR ?_
  intro p e s m args below meth c s₁ Bd hml0 hP hK
  obtain ⟨rfl, hZ, hh⟩ := hP
  have hx := Bd.exec
  have hby := Bd.bytes
  have hml : c.maxLocals = 5 := hml0
  have hown : s.vm.findClass "com/example/clockwrap/clockwrap/store/LongTable$Part" = some m.cls := findClass_of_methodNamed Bd.named
  have hnm := (name_of_methodNamed Bd.named Bd.method).1
  have X0 : Stand p l e ({ frames := 2, cells := 0, slots := 0, locals := 40 } : Room) s m #[(.ref o0), (.long key)] below meth c s₁ [] 0 0 := Stand.of_body Bd
  have e0 : s₁.heap = h0 := by rw [← hh, Bd.state]; rfl
  have N0 := Fr.nil n0
  show OFin p e below (ORet (Q_rm9_v Z o0 key ka va kf vf tk mm h0 n0) s ({ frames := 2, cells := 0, slots := 0, locals := 40 } : Room).cells ({ frames := 2, cells := 0, slots := 0, locals := 40 } : Room).slots) (s₁.setTop (entryFrame m #[(.ref o0), (.long key)] 5))
  refine OFin.go (fun t k => castTop (ef_rm9_v m o0 key) k) ?_
  have K0 := Keep.refl h0 [o0, ka, va]
  show OFin p e below (ORet (Q_rm9_v Z o0 key ka va kf vf tk mm h0 n0) s ({ frames := 2, cells := 0, slots := 0, locals := 40 } : Room).cells ({ frames := 2, cells := 0, slots := 0, locals := 40 } : Room).slots) (s₁.setTop (mkF m 0 #[.val (.ref o0), .val (.long key), .second, .unset, .unset] []))
  have S1 : ∀ t, Steps p.tables e below (s₁.setTop (mkF m 2 #[.val (.ref o0), .val (.long key), .second, .unset, .unset] [(.long key), (.ref o0)])) t → Steps p.tables e below (s₁.setTop (mkF m 0 #[.val (.ref o0), .val (.long key), .second, .unset, .unset] [])) t := by
    intro t k
    show Steps p.tables e below (s₁.setTop (mkF m 0 #[.val (.ref o0), .val (.long key), .second, .unset, .unset] [])) t
    refine XS.aloadN X0.here hx rfl (hb hby d9_0) rfl rfl ?_
    show Steps p.tables e below (s₁.setTop (mkF m 1 #[.val (.ref o0), .val (.long key), .second, .unset, .unset] [(.ref o0)])) t
    refine XS.lloadN X0.here hx rfl (hb hby d9_1) rfl ?_
    exact k
  refine OFin.go S1 ?_
  obtain ⟨_, T2, Lc2, X2, hQ2, st2⟩ := privQ X0 hx hZ (y := (⟨"com/example/clockwrap/clockwrap/store/LongTable$Part", "slot", "(J)I"⟩ : MethodName)) hown (hw _ (List.mem_of_getElem? (i := 53) rfl)) (hw _ (List.mem_of_getElem? (i := 54) rfl)) (hw _ (List.mem_of_getElem? (i := 14) rfl)) (hw _ (List.mem_of_getElem? (i := 56) rfl)) (hw _ (List.mem_of_getElem? (i := 55) rfl)) (hw _ (List.mem_of_getElem? (i := 13) rfl)) (by decide) E0 (argsL := [(.long key)]) (rest := []) (rm10 l Z a0 hw [] o0 key ka kf h0 n0 Z0 E0 Fs Fk Va (hP.free (by omega))) (W := 0) (by decide) (by decide) e0 (g := (mkF m 2 #[.val (.ref o0), .val (.long key), .second, .unset, .unset] [(.long key), (.ref o0)])) rfl (by rw [hml]; rfl) (lenOf pd_1 rfl) rfl (by show 2 * 0 + _ ≤ _; exact Nat.le_of_eq rfl) (hb hby d9_2) (Nat.le_of_ble_eq_true rfl) (Nat.le_of_ble_eq_true rfl)
  obtain ⟨sl, rfl, N2q, e2, hs0, hfn⟩ := hQ2
  have N2 := Fr.app N0 N2q
  refine OFin.go st2 ?_
  show OFin p e below _ (T2.setTop (mkF m 5 #[.val (.ref o0), .val (.long key), .second, .unset, .unset] [(.int sl)]))
  have S3 : ∀ t, Steps p.tables e below (T2.setTop (mkF m 7 #[.val (.ref o0), .val (.long key), .second, .val (.int sl), .unset] [(.ref o0)])) t → Steps p.tables e below (T2.setTop (mkF m 5 #[.val (.ref o0), .val (.long key), .second, .unset, .unset] [(.int sl)])) t := by
    intro t k
    show Steps p.tables e below (T2.setTop (mkF m 5 #[.val (.ref o0), .val (.long key), .second, .unset, .unset] [(.int sl)])) t
    refine XS.istoreN X2.here hx rfl (hb hby d9_5) rfl (l' := #[.val (.ref o0), .val (.long key), .second, .val (.int sl), .unset]) rfl ?_
    show Steps p.tables e below (T2.setTop (mkF m 6 #[.val (.ref o0), .val (.long key), .second, .val (.int sl), .unset] [])) t
    refine XS.aloadN X2.here hx rfl (hb hby d9_6) rfl rfl ?_
    exact k
  refine OFin.go S3 ?_
  obtain ⟨T4, X4, e4, st4⟩ := getF X2 hx hZ hown (host := "") (Or.inl (hw _ (List.mem_of_getElem? (i := 20) rfl))) Via.refl e2 Fk (g := (mkF m 7 #[.val (.ref o0), .val (.long key), .second, .val (.int sl), .unset] [(.ref o0)])) rfl rfl (hb hby d9_7)
  refine OFin.go st4 ?_
  show OFin p e below _ (T4.setTop (mkF m 10 #[.val (.ref o0), .val (.long key), .second, .val (.int sl), .unset] [(.ref ka)]))
  have S5 : ∀ t, Steps p.tables e below (T4.setTop (mkF m 14 #[.val (.ref o0), .val (.long key), .second, .val (.int sl), .unset] [(.int (lcmpW (kf sl.toNatClampNeg) key))])) t → Steps p.tables e below (T4.setTop (mkF m 10 #[.val (.ref o0), .val (.long key), .second, .val (.int sl), .unset] [(.ref ka)])) t := by
    intro t k
    show Steps p.tables e below (T4.setTop (mkF m 10 #[.val (.ref o0), .val (.long key), .second, .val (.int sl), .unset] [(.ref ka)])) t
    refine XS.iloadN X4.here hx rfl (hb hby d9_10) rfl ?_
    show Steps p.tables e below (T4.setTop (mkF m 11 #[.val (.ref o0), .val (.long key), .second, .val (.int sl), .unset] [(.int sl), (.ref ka)])) t
    refine rdJ X4 hx hZ e4 Va (i := sl.toNatClampNeg) hs0 rfl (own_fls hfn) (x := (.long (kf sl.toNatClampNeg))) rfl (g := (mkF m 11 #[.val (.ref o0), .val (.long key), .second, .val (.int sl), .unset] [(.int sl), (.ref ka)])) rfl rfl (hb hby d9_11) ?_
    show Steps p.tables e below (T4.setTop (mkF m 12 #[.val (.ref o0), .val (.long key), .second, .val (.int sl), .unset] [(.long (kf sl.toNatClampNeg))])) t
    refine XS.lloadN X4.here hx rfl (hb hby d9_12) rfl ?_
    show Steps p.tables e below (T4.setTop (mkF m 13 #[.val (.ref o0), .val (.long key), .second, .val (.int sl), .unset] [(.long key), (.long (kf sl.toNatClampNeg))])) t
    refine XS.lcmp X4.here hx rfl (hb hby d9_13) rfl ?_
    exact k
  refine OFin.go S5 ?_
  by_cases h6 : ((kf sl.toNatClampNeg) = key)
  · -- pc 14: ((kf sl.toNatClampNeg) = key)
    have S7 : ∀ t, Steps p.tables e below (T4.setTop (mkF m 17 #[.val (.ref o0), .val (.long key), .second, .val (.int sl), .unset] [])) t → Steps p.tables e below (T4.setTop (mkF m 14 #[.val (.ref o0), .val (.long key), .second, .val (.int sl), .unset] [(.int (lcmpW (kf sl.toNatClampNeg) key))])) t := by
      intro t k
      show Steps p.tables e below (T4.setTop (mkF m 14 #[.val (.ref o0), .val (.long key), .second, .val (.int sl), .unset] [(.int (lcmpW (kf sl.toNatClampNeg) key))])) t
      refine XS.ifNo X4.here hx rfl (hb hby d9_14) rfl (lc_ne_f h6) ?_
      exact k
    refine OFin.go S7 ?_
    have S8 : ∀ t, Steps p.tables e below (T4.setTop (mkF m 26 #[.val (.ref o0), .val (.long key), .second, .val (.int sl), .val (.int (1 : Int32))] [(.int (1 : Int32))])) t → Steps p.tables e below (T4.setTop (mkF m 17 #[.val (.ref o0), .val (.long key), .second, .val (.int sl), .unset] [])) t := by
      intro t k
      show Steps p.tables e below (T4.setTop (mkF m 17 #[.val (.ref o0), .val (.long key), .second, .val (.int sl), .unset] [])) t
      refine XS.iconst X4.here hx rfl (hb hby d9_17) ?_
      show Steps p.tables e below (T4.setTop (mkF m 18 #[.val (.ref o0), .val (.long key), .second, .val (.int sl), .unset] [(.int (1 : Int32))])) t
      refine XS.goto X4.here hx rfl (pc0 := 18) (pc' := 22) rfl (hb hby d9_18) (by decide) (by decide) ?_
      show Steps p.tables e below (T4.setTop (mkF m 22 #[.val (.ref o0), .val (.long key), .second, .val (.int sl), .unset] [(.int (1 : Int32))])) t
      refine XS.istore X4.here hx rfl (hb hby d9_22) rfl (l' := #[.val (.ref o0), .val (.long key), .second, .val (.int sl), .val (.int (1 : Int32))]) rfl ?_
      show Steps p.tables e below (T4.setTop (mkF m 24 #[.val (.ref o0), .val (.long key), .second, .val (.int sl), .val (.int (1 : Int32))] [])) t
      refine XS.iload X4.here hx rfl (hb hby d9_24) rfl ?_
      exact k
    refine OFin.go S8 ?_
    have S9 : ∀ t, Steps p.tables e below (T4.setTop (mkF m 29 #[.val (.ref o0), .val (.long key), .second, .val (.int sl), .val (.int (1 : Int32))] [])) t → Steps p.tables e below (T4.setTop (mkF m 26 #[.val (.ref o0), .val (.long key), .second, .val (.int sl), .val (.int (1 : Int32))] [(.int (1 : Int32))])) t := by
      intro t k
      show Steps p.tables e below (T4.setTop (mkF m 26 #[.val (.ref o0), .val (.long key), .second, .val (.int sl), .val (.int (1 : Int32))] [(.int (1 : Int32))])) t
      refine XS.ifNo X4.here hx rfl (hb hby d9_26) rfl ((if0 _ _).trans (feq (by decide)).1) ?_
      exact k
    refine OFin.go S9 ?_
    have S10 : ∀ t, Steps p.tables e below (T4.setTop (mkF m 31 #[.val (.ref o0), .val (.long key), .second, .val (.int sl), .val (.int (1 : Int32))] [(.int sl), (.ref o0)])) t → Steps p.tables e below (T4.setTop (mkF m 29 #[.val (.ref o0), .val (.long key), .second, .val (.int sl), .val (.int (1 : Int32))] [])) t := by
      intro t k
      show Steps p.tables e below (T4.setTop (mkF m 29 #[.val (.ref o0), .val (.long key), .second, .val (.int sl), .val (.int (1 : Int32))] [])) t
      refine XS.aloadN X4.here hx rfl (hb hby d9_29) rfl rfl ?_
      show Steps p.tables e below (T4.setTop (mkF m 30 #[.val (.ref o0), .val (.long key), .second, .val (.int sl), .val (.int (1 : Int32))] [(.ref o0)])) t
      refine XS.iloadN X4.here hx rfl (hb hby d9_30) rfl ?_
      exact k
    refine OFin.go S10 ?_
    obtain ⟨_, T11, Lc11, X11, hQ11, st11⟩ := privQ X4 hx hZ (y := (⟨"com/example/clockwrap/clockwrap/store/LongTable$Part", "free", "(I)V"⟩ : MethodName)) hown (hw _ (List.mem_of_getElem? (i := 106) rfl)) (hw _ (List.mem_of_getElem? (i := 107) rfl)) (hw _ (List.mem_of_getElem? (i := 14) rfl)) (hw _ (List.mem_of_getElem? (i := 109) rfl)) (hw _ (List.mem_of_getElem? (i := 108) rfl)) (hw _ (List.mem_of_getElem? (i := 13) rfl)) (by decide) E0 (argsL := [(.int sl)]) (rest := []) (rm19_v l Z a0 hw [] o0 sl ka va kf vf tk mm h0 n0 Z0 geo gek nok gev nov nkv E0 Fk Fv Fs Ft Va Vv hP hm10 hs0 (own_fls hfn) (by rw [h6]; exact hk)) (W := 0) (by decide) (by decide) e4 (g := (mkF m 31 #[.val (.ref o0), .val (.long key), .second, .val (.int sl), .val (.int (1 : Int32))] [(.int sl), (.ref o0)])) rfl (by rw [hml]; rfl) (lenOf pd_3 rfl) rfl (by show 2 * 0 + _ ≤ _; exact Nat.le_of_eq rfl) (hb hby d9_31) (Nat.le_of_ble_eq_true rfl) (Nat.le_of_ble_eq_true rfl)
    obtain ⟨kf', vf', rfl, N11q, K11q, E11, Fk11, Fv11, Fs11, Ft11, Va11, Vv11, hPr, hIn, hnv⟩ := hQ11
    have Z11 : n0 ≤ T11.heap.size := Nat.le_trans Z0 K11q.1
    have K11 := Keep.trans K0 K11q (allS (Or.inl (List.mem_of_getElem? (i := 0) rfl)) (allS (Or.inl (List.mem_of_getElem? (i := 1) rfl)) (allS (Or.inl (List.mem_of_getElem? (i := 2) rfl)) all0)))
    have N11 := Fr.app N2 N11q
    refine OFin.go st11 ?_
    show OFin p e below _ (T11.setTop (mkF m 34 #[.val (.ref o0), .val (.long key), .second, .val (.int sl), .val (.int (1 : Int32))] []))
    have S12 : ∀ t, Steps p.tables e below (T11.setTop (mkF m 36 #[.val (.ref o0), .val (.long key), .second, .val (.int sl), .val (.int (1 : Int32))] [(.ref o0), (.ref o0)])) t → Steps p.tables e below (T11.setTop (mkF m 34 #[.val (.ref o0), .val (.long key), .second, .val (.int sl), .val (.int (1 : Int32))] [])) t := by
      intro t k
      show Steps p.tables e below (T11.setTop (mkF m 34 #[.val (.ref o0), .val (.long key), .second, .val (.int sl), .val (.int (1 : Int32))] [])) t
      refine XS.aloadN X11.here hx rfl (hb hby d9_34) rfl rfl ?_
      show Steps p.tables e below (T11.setTop (mkF m 35 #[.val (.ref o0), .val (.long key), .second, .val (.int sl), .val (.int (1 : Int32))] [(.ref o0)])) t
      refine XS.dup X11.here hx rfl (hb hby d9_35) rfl rfl ?_
      exact k
    refine OFin.go S12 ?_
    obtain ⟨T13, X13, e13, st13⟩ := getF X11 hx hZ hown (host := "") (Or.inl (hw _ (List.mem_of_getElem? (i := 78) rfl))) Via.refl rfl Ft11 (g := (mkF m 36 #[.val (.ref o0), .val (.long key), .second, .val (.int sl), .val (.int (1 : Int32))] [(.ref o0), (.ref o0)])) rfl rfl (hb hby d9_36)
    refine OFin.go st13 ?_
    show OFin p e below _ (T13.setTop (mkF m 39 #[.val (.ref o0), .val (.long key), .second, .val (.int sl), .val (.int (1 : Int32))] [(.int tk), (.ref o0)]))
    have S14 : ∀ t, Steps p.tables e below (T13.setTop (mkF m 41 #[.val (.ref o0), .val (.long key), .second, .val (.int sl), .val (.int (1 : Int32))] [(.int (tk - (1 : Int32))), (.ref o0)])) t → Steps p.tables e below (T13.setTop (mkF m 39 #[.val (.ref o0), .val (.long key), .second, .val (.int sl), .val (.int (1 : Int32))] [(.int tk), (.ref o0)])) t := by
      intro t k
      show Steps p.tables e below (T13.setTop (mkF m 39 #[.val (.ref o0), .val (.long key), .second, .val (.int sl), .val (.int (1 : Int32))] [(.int tk), (.ref o0)])) t
      refine XS.iconst X13.here hx rfl (hb hby d9_39) ?_
      show Steps p.tables e below (T13.setTop (mkF m 40 #[.val (.ref o0), .val (.long key), .second, .val (.int sl), .val (.int (1 : Int32))] [(.int (1 : Int32)), (.int tk), (.ref o0)])) t
      refine XS.isub X13.here hx rfl (hb hby d9_40) rfl ?_
      exact k
    refine OFin.go S14 ?_
    obtain ⟨T15, h15, X15, e15, W15, st15⟩ := putF X13 hx hZ hown (host := "") (Or.inl (hw _ (List.mem_of_getElem? (i := 78) rfl))) Via.refl e13 Ft11 E11 (Or.inl (hw _ (List.mem_of_getElem? (i := 79) rfl))) (hw _ (List.mem_of_getElem? (i := 13) rfl)) (ty := .int) (by decide) rfl rfl (g := (mkF m 41 #[.val (.ref o0), .val (.long key), .second, .val (.int sl), .val (.int (1 : Int32))] [(.int (tk - (1 : Int32))), (.ref o0)])) rfl rfl (hb hby d9_41)
    have Fw15 := Ft11.same W15
    have N15 := Fr.snoc X15 N11 geo
    have Z15 : n0 ≤ h15.size := Nat.le_trans Z11 (wr_le W15)
    have K15 := Keep.wr K11 W15 (Or.inl (List.mem_of_getElem? (i := 0) rfl))
    refine OFin.go st15 ?_
    show OFin p e below _ (T15.setTop (mkF m 44 #[.val (.ref o0), .val (.long key), .second, .val (.int sl), .val (.int (1 : Int32))] []))
    have S16 : ∀ t, Steps p.tables e below (T15.setTop (mkF m 46 #[.val (.ref o0), .val (.long key), .second, .val (.int sl), .val (.int (1 : Int32))] [(.int (1 : Int32))])) t → Steps p.tables e below (T15.setTop (mkF m 44 #[.val (.ref o0), .val (.long key), .second, .val (.int sl), .val (.int (1 : Int32))] [])) t := by
      intro t k
      show Steps p.tables e below (T15.setTop (mkF m 44 #[.val (.ref o0), .val (.long key), .second, .val (.int sl), .val (.int (1 : Int32))] [])) t
      refine XS.iload X15.here hx rfl (hb hby d9_44) rfl ?_
      exact k
    refine OFin.go S16 ?_
    have F17 := E11.wr W15
    have F18 := Fk11.other W15 (Or.inr (slot_ne (Or.inl (hw _ (List.mem_of_getElem? (i := 21) rfl))) (Or.inl (hw _ (List.mem_of_getElem? (i := 79) rfl))) (by decide) (t := (.array .long)) (t' := .int) (by decide) (by decide)))
    have F19 := Fv11.other W15 (Or.inr (slot_ne (Or.inl (hw _ (List.mem_of_getElem? (i := 77) rfl))) (Or.inl (hw _ (List.mem_of_getElem? (i := 79) rfl))) (by decide) (t := (.array .long)) (t' := .int) (by decide) (by decide)))
    have F20 := Fs11.other W15 (Or.inr (slot_ne (Or.inl (hw _ (List.mem_of_getElem? (i := 28) rfl))) (Or.inl (hw _ (List.mem_of_getElem? (i := 79) rfl))) (by decide) (t := .int) (t' := .int) (by decide) (by decide)))
    have F21 := Va11.other W15 (Ne.symm nok)
    have F22 := Vv11.other W15 (Ne.symm nov)
    exact finZ X15 hx Bd.notSynchronized (t := .boolean) Bd.returns (by simp) (hb hby d9_46) rfl (by decide) (by decide) (by rw [e15]; exact ⟨_, kf', vf', tk - 1, rfl, N15, K15, F17, F18, F19, F20, Fw15, F21, F22, hPr _ (own_t hP hm10).2.2, fun kk vv q => by rw [hIn kk vv q, h6], hnv⟩)
  · -- pc 14: not ((kf sl.toNatClampNeg) = key)
    have S23 : ∀ t, Steps p.tables e below (T4.setTop (mkF m 21 #[.val (.ref o0), .val (.long key), .second, .val (.int sl), .unset] [])) t → Steps p.tables e below (T4.setTop (mkF m 14 #[.val (.ref o0), .val (.long key), .second, .val (.int sl), .unset] [(.int (lcmpW (kf sl.toNatClampNeg) key))])) t := by
      intro t k
      show Steps p.tables e below (T4.setTop (mkF m 14 #[.val (.ref o0), .val (.long key), .second, .val (.int sl), .unset] [(.int (lcmpW (kf sl.toNatClampNeg) key))])) t
      refine XS.ifYes X4.here hx rfl (pc0 := 14) (pc' := 21) rfl (hb hby d9_14) rfl (lc_ne_t h6) (by decide) (by decide) ?_
      exact k
    refine OFin.go S23 ?_
    have S24 : ∀ t, Steps p.tables e below (T4.setTop (mkF m 26 #[.val (.ref o0), .val (.long key), .second, .val (.int sl), .val (.int (0 : Int32))] [(.int (0 : Int32))])) t → Steps p.tables e below (T4.setTop (mkF m 21 #[.val (.ref o0), .val (.long key), .second, .val (.int sl), .unset] [])) t := by
      intro t k
      show Steps p.tables e below (T4.setTop (mkF m 21 #[.val (.ref o0), .val (.long key), .second, .val (.int sl), .unset] [])) t
      refine XS.iconst X4.here hx rfl (hb hby d9_21) ?_
      show Steps p.tables e below (T4.setTop (mkF m 22 #[.val (.ref o0), .val (.long key), .second, .val (.int sl), .unset] [(.int (0 : Int32))])) t
      refine XS.istore X4.here hx rfl (hb hby d9_22) rfl (l' := #[.val (.ref o0), .val (.long key), .second, .val (.int sl), .val (.int (0 : Int32))]) rfl ?_
      show Steps p.tables e below (T4.setTop (mkF m 24 #[.val (.ref o0), .val (.long key), .second, .val (.int sl), .val (.int (0 : Int32))] [])) t
      refine XS.iload X4.here hx rfl (hb hby d9_24) rfl ?_
      exact k
    refine OFin.go S24 ?_
    have S25 : ∀ t, Steps p.tables e below (T4.setTop (mkF m 44 #[.val (.ref o0), .val (.long key), .second, .val (.int sl), .val (.int (0 : Int32))] [])) t → Steps p.tables e below (T4.setTop (mkF m 26 #[.val (.ref o0), .val (.long key), .second, .val (.int sl), .val (.int (0 : Int32))] [(.int (0 : Int32))])) t := by
      intro t k
      show Steps p.tables e below (T4.setTop (mkF m 26 #[.val (.ref o0), .val (.long key), .second, .val (.int sl), .val (.int (0 : Int32))] [(.int (0 : Int32))])) t
      refine XS.ifYes X4.here hx rfl (pc0 := 26) (pc' := 44) rfl (hb hby d9_26) rfl ((if0 _ _).trans (teq (by decide)).1) (by decide) (by decide) ?_
      exact k
    refine OFin.go S25 ?_
    have S26 : ∀ t, Steps p.tables e below (T4.setTop (mkF m 46 #[.val (.ref o0), .val (.long key), .second, .val (.int sl), .val (.int (0 : Int32))] [(.int (0 : Int32))])) t → Steps p.tables e below (T4.setTop (mkF m 44 #[.val (.ref o0), .val (.long key), .second, .val (.int sl), .val (.int (0 : Int32))] [])) t := by
      intro t k
      show Steps p.tables e below (T4.setTop (mkF m 44 #[.val (.ref o0), .val (.long key), .second, .val (.int sl), .val (.int (0 : Int32))] [])) t
      refine XS.iload X4.here hx rfl (hb hby d9_44) rfl ?_
      exact k
    refine OFin.go S26 ?_
    exact finZ X4 hx Bd.notSynchronized (t := .boolean) Bd.returns (by simp) (hb hby d9_46) rfl (by decide) (by decide) (by rw [e4]; exact ⟨_, kf, vf, tk, rfl, N2, K0, E0, Fk, Fv, Fs, Ft, Va, Vv, hP.mono (by omega), own_remS (fun q => h6 ((own_there hP.1 hP.2.1 hk hfn).mpr q)), fun q => q⟩)
theorem ef_rm18_v (m : MethodId) (o0 : Addr) (key : Int64) (val : Int64) : entryFrame m #[(.ref o0), (.long key), (.long val)] 7 = mkF m 0 #[.val (.ref o0), .val (.long key), .second, .val (.long val), .second, .unset, .unset] [] := by first | (simp [entryFrame, mkF, argsToLocals, Value.category]; done) | rfl
def Q_rm18_v (Z : State) (o0 : Addr) (key : Int64) (val : Int64) (ka va : Addr) (kf vf : Nat → Int64) (tk : Int32) (mm : Nat) (h0 : Heap) (n0 : Nat) (v : Option Value) (h : Heap) (L : List Loc) : Prop := ∃ (b : Int32) (kf' vf' : Nat → Int64) (tk' : Int32), v = some (.int b) ∧ Fr n0 L ∧ Keep h0 h [o0, ka, va] ∧ Exa Z h o0 "com/example/clockwrap/clockwrap/store/LongTable$Part" ∧ Fld Z h o0 "com/example/clockwrap/clockwrap/store/LongTable$Part" "keys" "[J" (.ref ka) ∧ Fld Z h o0 "com/example/clockwrap/clockwrap/store/LongTable$Part" "values" "[J" (.ref va) ∧ Fld Z h o0 "com/example/clockwrap/clockwrap/store/LongTable$Part" "shift" "I" (.int (60 : Int32)) ∧ Fld Z h o0 "com/example/clockwrap/clockwrap/store/LongTable$Part" "taken" "I" (.int tk') ∧ Ara Z h ka .long 16 (fun i => .long (kf' i)) ∧ Ara Z h va .long 16 (fun i => .long (vf' i)) ∧ PI hm kf' vf' tk' (mm + 1) ∧ (∀ kk vv, kk ≠ 0 → (In kf' vf' kk vv ↔ putM key val (In kf vf) kk vv))
set_option maxRecDepth 65536 in
set_option maxHeartbeats 40000000 in
theorem rm18_v (l : Launch) (Z : State) (a0 : Array Value) (hw : ∀ d ∈ tables_1, d.before a0 Z = true) (ws : List Jvm.Cond) (o0 : Addr) (key : Int64) (val : Int64) (ka va : Addr) (kf vf : Nat → Int64) (tk : Int32) (mm : Nat) (h0 : Heap) (n0 : Nat) (Z0 : n0 ≤ h0.size) (geo : n0 ≤ o0) (gek : n0 ≤ ka) (nok : o0 ≠ ka) (gev : n0 ≤ va) (nov : o0 ≠ va) (nkv : ka ≠ va) (E0 : Exa Z h0 o0 "com/example/clockwrap/clockwrap/store/LongTable$Part") (Fk : Fld Z h0 o0 "com/example/clockwrap/clockwrap/store/LongTable$Part" "keys" "[J" (.ref ka)) (Fv : Fld Z h0 o0 "com/example/clockwrap/clockwrap/store/LongTable$Part" "values" "[J" (.ref va)) (Fs : Fld Z h0 o0 "com/example/clockwrap/clockwrap/store/LongTable$Part" "shift" "I" (.int (60 : Int32))) (Ft : Fld Z h0 o0 "com/example/clockwrap/clockwrap/store/LongTable$Part" "taken" "I" (.int tk)) (Va : Ara Z h0 ka .long 16 (fun i => .long (kf i))) (Vv : Ara Z h0 va .long 16 (fun i => .long (vf i))) (hP : PI hm kf vf tk mm) (hm10 : mm < 10) (hk : key ≠ 0) :
    MetFree l (⟨"com/example/clockwrap/clockwrap/store/LongTable$Part", "put", "(JJ)Z"⟩ : MethodName) (head1 (Jvm.Cond.code (⟨"com/example/clockwrap/clockwrap/store/LongTable$Part", "put", "(JJ)Z"⟩ : MethodName) prog_33_method_4_code 7 (some .boolean) :: ws) ({ frames := 2, cells := 1, slots := 16, locals := 40 } : Room)) (fun a U => a = #[(.ref o0), (.long key), (.long val)] ∧ Z.Warmed39 U.vm ∧ U.heap = h0) (fun _ _ _ _ _ => True) (fun _ U o U' => ∃ v L, o = .returned v ∧ (Q_rm18_v Z o0 key val ka va kf vf tk mm h0 n0) v U'.heap L ∧ FrameEnd U o U' L ({ frames := 2, cells := 1, slots := 16, locals := 40 } : Room).cells ({ frames := 2, cells := 1, slots := 16, locals := 40 } : Room).slots) := by
  refine MetFree.of_bodySF (plainFor_of_name pn_1) hisR ?_
  intro p e s m args below meth c s₁ Bd hml0 hP hK
  obtain ⟨rfl, hZ, hh⟩ := hP
  have hx := Bd.exec
  have hby := Bd.bytes
  have hml : c.maxLocals = 7 := hml0
  have hown : s.vm.findClass "com/example/clockwrap/clockwrap/store/LongTable$Part" = some m.cls := findClass_of_methodNamed Bd.named
  have hnm := (name_of_methodNamed Bd.named Bd.method).1
  have X0 : Stand p l e ({ frames := 2, cells := 1, slots := 16, locals := 40 } : Room) s m #[(.ref o0), (.long key), (.long val)] below meth c s₁ [] 0 0 := Stand.of_body Bd
  have e0 : s₁.heap = h0 := by rw [← hh, Bd.state]; rfl
  have N0 := Fr.nil n0
  show OFin p e below (ORet (Q_rm18_v Z o0 key val ka va kf vf tk mm h0 n0) s ({ frames := 2, cells := 1, slots := 16, locals := 40 } : Room).cells ({ frames := 2, cells := 1, slots := 16, locals := 40 } : Room).slots) (s₁.setTop (entryFrame m #[(.ref o0), (.long key), (.long val)] 7))
  refine OFin.go (fun t k => castTop (ef_rm18_v m o0 key val) k) ?_
  have K0 := Keep.refl h0 [o0, ka, va]
  show OFin p e below (ORet (Q_rm18_v Z o0 key val ka va kf vf tk mm h0 n0) s ({ frames := 2, cells := 1, slots := 16, locals := 40 } : Room).cells ({ frames := 2, cells := 1, slots := 16, locals := 40 } : Room).slots) (s₁.setTop (mkF m 0 #[.val (.ref o0), .val (.long key), .second, .val (.long val), .second, .unset, .unset] []))
  have S1 : ∀ t, Steps p.tables e below (s₁.setTop (mkF m 1 #[.val (.ref o0), .val (.long key), .second, .val (.long val), .second, .unset, .unset] [(.ref o0)])) t → Steps p.tables e below (s₁.setTop (mkF m 0 #[.val (.ref o0), .val (.long key), .second, .val (.long val), .second, .unset, .unset] [])) t := by
    intro t k
    show Steps p.tables e below (s₁.setTop (mkF m 0 #[.val (.ref o0), .val (.long key), .second, .val (.long val), .second, .unset, .unset] [])) t
    refine XS.aloadN X0.here hx rfl (hb hby d18_0) rfl rfl ?_
    exact k
  refine OFin.go S1 ?_
  obtain ⟨T2, X2, e2, st2⟩ := getF X0 hx hZ hown (host := "") (Or.inl (hw _ (List.mem_of_getElem? (i := 76) rfl))) Via.refl e0 Fv (g := (mkF m 1 #[.val (.ref o0), .val (.long key), .second, .val (.long val), .second, .unset, .unset] [(.ref o0)])) rfl rfl (hb hby d18_1)
  refine OFin.go st2 ?_
  show OFin p e below _ (T2.setTop (mkF m 4 #[.val (.ref o0), .val (.long key), .second, .val (.long val), .second, .unset, .unset] [(.ref va)]))
  refine OFin.go (fun t k => ?_ : ∀ t, Steps p.tables e below (T2.setTop (mkF m 18 #[.val (.ref o0), .val (.long key), .second, .val (.long val), .second, .unset, .unset] [])) t → Steps p.tables e below (T2.setTop (mkF m 4 #[.val (.ref o0), .val (.long key), .second, .val (.long val), .second, .unset, .unset] [(.ref va)])) t) ?_
  · show Steps p.tables e below (T2.setTop (mkF m 4 #[.val (.ref o0), .val (.long key), .second, .val (.long val), .second, .unset, .unset] [(.ref va)])) t
    refine XS.ifnonnullYes X2.here hx rfl (pc0 := 4) (pc' := 18) rfl (hb hby d18_4) rfl (by decide) (by decide) ?_
    exact k
  have S3 : ∀ t, Steps p.tables e below (T2.setTop (mkF m 20 #[.val (.ref o0), .val (.long key), .second, .val (.long val), .second, .unset, .unset] [(.long key), (.ref o0)])) t → Steps p.tables e below (T2.setTop (mkF m 18 #[.val (.ref o0), .val (.long key), .second, .val (.long val), .second, .unset, .unset] [])) t := by
    intro t k
    show Steps p.tables e below (T2.setTop (mkF m 18 #[.val (.ref o0), .val (.long key), .second, .val (.long val), .second, .unset, .unset] [])) t
    refine XS.aloadN X2.here hx rfl (hb hby d18_18) rfl rfl ?_
    show Steps p.tables e below (T2.setTop (mkF m 19 #[.val (.ref o0), .val (.long key), .second, .val (.long val), .second, .unset, .unset] [(.ref o0)])) t
    refine XS.lloadN X2.here hx rfl (hb hby d18_19) rfl ?_
    exact k
  refine OFin.go S3 ?_
  obtain ⟨_, T4, Lc4, X4, hQ4, st4⟩ := privQ X2 hx hZ (y := (⟨"com/example/clockwrap/clockwrap/store/LongTable$Part", "slot", "(J)I"⟩ : MethodName)) hown (hw _ (List.mem_of_getElem? (i := 53) rfl)) (hw _ (List.mem_of_getElem? (i := 54) rfl)) (hw _ (List.mem_of_getElem? (i := 14) rfl)) (hw _ (List.mem_of_getElem? (i := 56) rfl)) (hw _ (List.mem_of_getElem? (i := 55) rfl)) (hw _ (List.mem_of_getElem? (i := 13) rfl)) (by decide) E0 (argsL := [(.long key)]) (rest := []) (rm10 l Z a0 hw [] o0 key ka kf h0 n0 Z0 E0 Fs Fk Va (hP.free (by omega))) (W := 0) (by decide) (by decide) e2 (g := (mkF m 20 #[.val (.ref o0), .val (.long key), .second, .val (.long val), .second, .unset, .unset] [(.long key), (.ref o0)])) rfl (by rw [hml]; rfl) (lenOf pd_1 rfl) rfl (by show 2 * 0 + _ ≤ _; exact Nat.le_of_eq rfl) (hb hby d18_20) (Nat.le_of_ble_eq_true rfl) (Nat.le_of_ble_eq_true rfl)
  obtain ⟨sl, rfl, N4q, e4, hs0, hfn⟩ := hQ4
  have N4 := Fr.app N0 N4q
  refine OFin.go st4 ?_
  show OFin p e below _ (T4.setTop (mkF m 23 #[.val (.ref o0), .val (.long key), .second, .val (.long val), .second, .unset, .unset] [(.int sl)]))
  have S5 : ∀ t, Steps p.tables e below (T4.setTop (mkF m 26 #[.val (.ref o0), .val (.long key), .second, .val (.long val), .second, .val (.int sl), .unset] [(.ref o0)])) t → Steps p.tables e below (T4.setTop (mkF m 23 #[.val (.ref o0), .val (.long key), .second, .val (.long val), .second, .unset, .unset] [(.int sl)])) t := by
    intro t k
    show Steps p.tables e below (T4.setTop (mkF m 23 #[.val (.ref o0), .val (.long key), .second, .val (.long val), .second, .unset, .unset] [(.int sl)])) t
    refine XS.istore X4.here hx rfl (hb hby d18_23) rfl (l' := #[.val (.ref o0), .val (.long key), .second, .val (.long val), .second, .val (.int sl), .unset]) rfl ?_
    show Steps p.tables e below (T4.setTop (mkF m 25 #[.val (.ref o0), .val (.long key), .second, .val (.long val), .second, .val (.int sl), .unset] [])) t
    refine XS.aloadN X4.here hx rfl (hb hby d18_25) rfl rfl ?_
    exact k
  refine OFin.go S5 ?_
  obtain ⟨T6, X6, e6, st6⟩ := getF X4 hx hZ hown (host := "") (Or.inl (hw _ (List.mem_of_getElem? (i := 20) rfl))) Via.refl e4 Fk (g := (mkF m 26 #[.val (.ref o0), .val (.long key), .second, .val (.long val), .second, .val (.int sl), .unset] [(.ref o0)])) rfl rfl (hb hby d18_26)
  refine OFin.go st6 ?_
  show OFin p e below _ (T6.setTop (mkF m 29 #[.val (.ref o0), .val (.long key), .second, .val (.long val), .second, .val (.int sl), .unset] [(.ref ka)]))
  have S7 : ∀ t, Steps p.tables e below (T6.setTop (mkF m 34 #[.val (.ref o0), .val (.long key), .second, .val (.long val), .second, .val (.int sl), .unset] [(.int (lcmpW (kf sl.toNatClampNeg) (0 : Int64)))])) t → Steps p.tables e below (T6.setTop (mkF m 29 #[.val (.ref o0), .val (.long key), .second, .val (.long val), .second, .val (.int sl), .unset] [(.ref ka)])) t := by
    intro t k
    show Steps p.tables e below (T6.setTop (mkF m 29 #[.val (.ref o0), .val (.long key), .second, .val (.long val), .second, .val (.int sl), .unset] [(.ref ka)])) t
    refine XS.iload X6.here hx rfl (hb hby d18_29) rfl ?_
    show Steps p.tables e below (T6.setTop (mkF m 31 #[.val (.ref o0), .val (.long key), .second, .val (.long val), .second, .val (.int sl), .unset] [(.int sl), (.ref ka)])) t
    refine rdJ X6 hx hZ e6 Va (i := sl.toNatClampNeg) hs0 rfl (own_fls hfn) (x := (.long (kf sl.toNatClampNeg))) rfl (g := (mkF m 31 #[.val (.ref o0), .val (.long key), .second, .val (.long val), .second, .val (.int sl), .unset] [(.int sl), (.ref ka)])) rfl rfl (hb hby d18_31) ?_
    show Steps p.tables e below (T6.setTop (mkF m 32 #[.val (.ref o0), .val (.long key), .second, .val (.long val), .second, .val (.int sl), .unset] [(.long (kf sl.toNatClampNeg))])) t
    refine XS.lconst X6.here hx rfl (hb hby d18_32) ?_
    show Steps p.tables e below (T6.setTop (mkF m 33 #[.val (.ref o0), .val (.long key), .second, .val (.long val), .second, .val (.int sl), .unset] [(.long (0 : Int64)), (.long (kf sl.toNatClampNeg))])) t
    refine XS.lcmp X6.here hx rfl (hb hby d18_33) rfl ?_
    exact k
  refine OFin.go S7 ?_
  have J8 : ∀ t, Steps p.tables e below (T6.setTop (mkF m 42 #[.val (.ref o0), .val (.long key), .second, .val (.long val), .second, .val (.int sl), .unset] [(.int (bi ((kf sl.toNatClampNeg) = (0 : Int64))))])) t → Steps p.tables e below (T6.setTop (mkF m 34 #[.val (.ref o0), .val (.long key), .second, .val (.long val), .second, .val (.int sl), .unset] [(.int (lcmpW (kf sl.toNatClampNeg) (0 : Int64)))])) t := by
    intro t k
    show Steps p.tables e below (T6.setTop (mkF m 34 #[.val (.ref o0), .val (.long key), .second, .val (.long val), .second, .val (.int sl), .unset] [(.int (lcmpW (kf sl.toNatClampNeg) (0 : Int64)))])) t
    by_cases h9 : ((kf sl.toNatClampNeg) = (0 : Int64))
    · refine XS.ifNo X6.here hx rfl (hb hby d18_34) rfl (lc_ne_f h9) ?_
      show Steps p.tables e below (T6.setTop (mkF m 37 #[.val (.ref o0), .val (.long key), .second, .val (.long val), .second, .val (.int sl), .unset] [])) t
      refine XS.iconst X6.here hx rfl (hb hby d18_37) ?_
      show Steps p.tables e below (T6.setTop (mkF m 38 #[.val (.ref o0), .val (.long key), .second, .val (.long val), .second, .val (.int sl), .unset] [(.int (1 : Int32))])) t
      refine XS.goto X6.here hx rfl (pc0 := 38) (pc' := 42) rfl (hb hby d18_38) (by decide) (by decide) ?_
      show Steps p.tables e below (T6.setTop (mkF m 42 #[.val (.ref o0), .val (.long key), .second, .val (.long val), .second, .val (.int sl), .unset] [(.int (1 : Int32))])) t
      exact (castTop (congrArg (fun zq_ => (mkF m 42 #[.val (.ref o0), .val (.long key), .second, .val (.long val), .second, .val (.int sl), .unset] [(.int zq_)])) (bi_t h9).symm) k)
    · refine XS.ifYes X6.here hx rfl (pc0 := 34) (pc' := 41) rfl (hb hby d18_34) rfl (lc_ne_t h9) (by decide) (by decide) ?_
      show Steps p.tables e below (T6.setTop (mkF m 41 #[.val (.ref o0), .val (.long key), .second, .val (.long val), .second, .val (.int sl), .unset] [])) t
      refine XS.iconst X6.here hx rfl (hb hby d18_41) ?_
      show Steps p.tables e below (T6.setTop (mkF m 42 #[.val (.ref o0), .val (.long key), .second, .val (.long val), .second, .val (.int sl), .unset] [(.int (0 : Int32))])) t
      exact (castTop (congrArg (fun zq_ => (mkF m 42 #[.val (.ref o0), .val (.long key), .second, .val (.long val), .second, .val (.int sl), .unset] [(.int zq_)])) (bi_f h9).symm) k)
  refine OFin.go J8 ?_
  have S10 : ∀ t, Steps p.tables e below (T6.setTop (mkF m 46 #[.val (.ref o0), .val (.long key), .second, .val (.long val), .second, .val (.int sl), .val (.int (bi ((kf sl.toNatClampNeg) = (0 : Int64))))] [(.int (bi ((kf sl.toNatClampNeg) = (0 : Int64))))])) t → Steps p.tables e below (T6.setTop (mkF m 42 #[.val (.ref o0), .val (.long key), .second, .val (.long val), .second, .val (.int sl), .unset] [(.int (bi ((kf sl.toNatClampNeg) = (0 : Int64))))])) t := by
    intro t k
    show Steps p.tables e below (T6.setTop (mkF m 42 #[.val (.ref o0), .val (.long key), .second, .val (.long val), .second, .val (.int sl), .unset] [(.int (bi ((kf sl.toNatClampNeg) = (0 : Int64))))])) t
    refine XS.istore X6.here hx rfl (hb hby d18_42) rfl (l' := #[.val (.ref o0), .val (.long key), .second, .val (.long val), .second, .val (.int sl), .val (.int (bi ((kf sl.toNatClampNeg) = (0 : Int64))))]) rfl ?_
    show Steps p.tables e below (T6.setTop (mkF m 44 #[.val (.ref o0), .val (.long key), .second, .val (.long val), .second, .val (.int sl), .val (.int (bi ((kf sl.toNatClampNeg) = (0 : Int64))))] [])) t
    refine XS.iload X6.here hx rfl (hb hby d18_44) rfl ?_
    exact k
  refine OFin.go S10 ?_
  by_cases h11 : ((kf sl.toNatClampNeg) = (0 : Int64))
  · -- pc 46: ((kf sl.toNatClampNeg) = (0 : Int64))
    have S12 : ∀ t, Steps p.tables e below (T6.setTop (mkF m 49 #[.val (.ref o0), .val (.long key), .second, .val (.long val), .second, .val (.int sl), .val (.int (bi ((kf sl.toNatClampNeg) = (0 : Int64))))] [])) t → Steps p.tables e below (T6.setTop (mkF m 46 #[.val (.ref o0), .val (.long key), .second, .val (.long val), .second, .val (.int sl), .val (.int (bi ((kf sl.toNatClampNeg) = (0 : Int64))))] [(.int (bi ((kf sl.toNatClampNeg) = (0 : Int64))))])) t := by
      intro t k
      show Steps p.tables e below (T6.setTop (mkF m 46 #[.val (.ref o0), .val (.long key), .second, .val (.long val), .second, .val (.int sl), .val (.int (bi ((kf sl.toNatClampNeg) = (0 : Int64))))] [(.int (bi ((kf sl.toNatClampNeg) = (0 : Int64))))])) t
      refine XS.ifNo X6.here hx rfl (hb hby d18_46) rfl (bi_eq_f h11) ?_
      exact k
    refine OFin.go S12 ?_
    have S13 : ∀ t, Steps p.tables e below (T6.setTop (mkF m 54 #[.val (.ref o0), .val (.long key), .second, .val (.long val), .second, .val (.int sl), .val (.int (bi ((kf sl.toNatClampNeg) = (0 : Int64))))] [(.long val), (.long key), (.int sl), (.ref o0)])) t → Steps p.tables e below (T6.setTop (mkF m 49 #[.val (.ref o0), .val (.long key), .second, .val (.long val), .second, .val (.int sl), .val (.int (bi ((kf sl.toNatClampNeg) = (0 : Int64))))] [])) t := by
      intro t k
      show Steps p.tables e below (T6.setTop (mkF m 49 #[.val (.ref o0), .val (.long key), .second, .val (.long val), .second, .val (.int sl), .val (.int (bi ((kf sl.toNatClampNeg) = (0 : Int64))))] [])) t
      refine XS.aloadN X6.here hx rfl (hb hby d18_49) rfl rfl ?_
      show Steps p.tables e below (T6.setTop (mkF m 50 #[.val (.ref o0), .val (.long key), .second, .val (.long val), .second, .val (.int sl), .val (.int (bi ((kf sl.toNatClampNeg) = (0 : Int64))))] [(.ref o0)])) t
      refine XS.iload X6.here hx rfl (hb hby d18_50) rfl ?_
      show Steps p.tables e below (T6.setTop (mkF m 52 #[.val (.ref o0), .val (.long key), .second, .val (.long val), .second, .val (.int sl), .val (.int (bi ((kf sl.toNatClampNeg) = (0 : Int64))))] [(.int sl), (.ref o0)])) t
      refine XS.lloadN X6.here hx rfl (hb hby d18_52) rfl ?_
      show Steps p.tables e below (T6.setTop (mkF m 53 #[.val (.ref o0), .val (.long key), .second, .val (.long val), .second, .val (.int sl), .val (.int (bi ((kf sl.toNatClampNeg) = (0 : Int64))))] [(.long key), (.int sl), (.ref o0)])) t
      refine XS.lloadN X6.here hx rfl (hb hby d18_53) rfl ?_
      exact k
    refine OFin.go S13 ?_
    obtain ⟨_, T14, Lc14, X14, hQ14, st14⟩ := privQ X6 hx hZ (y := (⟨"com/example/clockwrap/clockwrap/store/LongTable$Part", "place", "(IJJ)V"⟩ : MethodName)) hown (hw _ (List.mem_of_getElem? (i := 72) rfl)) (hw _ (List.mem_of_getElem? (i := 73) rfl)) (hw _ (List.mem_of_getElem? (i := 14) rfl)) (hw _ (List.mem_of_getElem? (i := 75) rfl)) (hw _ (List.mem_of_getElem? (i := 74) rfl)) (hw _ (List.mem_of_getElem? (i := 13) rfl)) (by decide) E0 (argsL := [(.int sl), (.long key), (.long val)]) (rest := []) (rm14_v l Z a0 hw [] o0 sl key val ka va kf vf tk h0 n0 Z0 geo gek nok gev nov nkv E0 Fk Fv Fs Ft Va Vv hs0 (own_fls hfn) (own_t hP hm10).1) (W := 0) (by decide) (by decide) e6 (g := (mkF m 54 #[.val (.ref o0), .val (.long key), .second, .val (.long val), .second, .val (.int sl), .val (.int (bi ((kf sl.toNatClampNeg) = (0 : Int64))))] [(.long val), (.long key), (.int sl), (.ref o0)])) rfl (by rw [hml]; rfl) (lenOf pd_2 rfl) rfl (by show 2 * 0 + _ ≤ _; exact Nat.le_of_eq rfl) (hb hby d18_54) (Nat.le_of_ble_eq_true rfl) (Nat.le_of_ble_eq_true rfl)
    obtain ⟨rfl, N14q, K14q, E14, Fk14, Fv14, Fs14, Ft14, Va14, Vv14⟩ := hQ14
    have Z14 : n0 ≤ T14.heap.size := Nat.le_trans Z0 K14q.1
    have K14 := Keep.trans K0 K14q (allS (Or.inl (List.mem_of_getElem? (i := 0) rfl)) (allS (Or.inl (List.mem_of_getElem? (i := 1) rfl)) (allS (Or.inl (List.mem_of_getElem? (i := 2) rfl)) all0)))
    have N14 := Fr.app N4 N14q
    refine OFin.go st14 ?_
    show OFin p e below _ (T14.setTop (mkF m 57 #[.val (.ref o0), .val (.long key), .second, .val (.long val), .second, .val (.int sl), .val (.int (bi ((kf sl.toNatClampNeg) = (0 : Int64))))] []))
    have S15 : ∀ t, Steps p.tables e below (T14.setTop (mkF m 70 #[.val (.ref o0), .val (.long key), .second, .val (.long val), .second, .val (.int sl), .val (.int (bi ((kf sl.toNatClampNeg) = (0 : Int64))))] [(.int (bi ((kf sl.toNatClampNeg) = (0 : Int64))))])) t → Steps p.tables e below (T14.setTop (mkF m 57 #[.val (.ref o0), .val (.long key), .second, .val (.long val), .second, .val (.int sl), .val (.int (bi ((kf sl.toNatClampNeg) = (0 : Int64))))] [])) t := by
      intro t k
      show Steps p.tables e below (T14.setTop (mkF m 57 #[.val (.ref o0), .val (.long key), .second, .val (.long val), .second, .val (.int sl), .val (.int (bi ((kf sl.toNatClampNeg) = (0 : Int64))))] [])) t
      refine XS.goto X14.here hx rfl (pc0 := 57) (pc' := 68) rfl (hb hby d18_57) (by decide) (by decide) ?_
      show Steps p.tables e below (T14.setTop (mkF m 68 #[.val (.ref o0), .val (.long key), .second, .val (.long val), .second, .val (.int sl), .val (.int (bi ((kf sl.toNatClampNeg) = (0 : Int64))))] [])) t
      refine XS.iload X14.here hx rfl (hb hby d18_68) rfl ?_
      exact k
    refine OFin.go S15 ?_
    exact finZ X14 hx Bd.notSynchronized (t := .boolean) Bd.returns (by simp) (hb hby d18_70) (nar_bi _) (by decide) (by decide) (by exact ⟨_, upd kf sl.toNatClampNeg key, upd vf sl.toNatClampNeg val, tk + 1, rfl, N14, K14, E14, Fk14, Fv14, Fs14, Ft14, Va14, Vv14, (own_addNew (val := val) hP (by omega) hk hfn h11 (own_t hP hm10).2.1).1, (own_addNew (val := val) hP (by omega) hk hfn h11 (own_t hP hm10).2.1).2.2⟩)
  · -- pc 46: not ((kf sl.toNatClampNeg) = (0 : Int64))
    have S16 : ∀ t, Steps p.tables e below (T6.setTop (mkF m 60 #[.val (.ref o0), .val (.long key), .second, .val (.long val), .second, .val (.int sl), .val (.int (bi ((kf sl.toNatClampNeg) = (0 : Int64))))] [])) t → Steps p.tables e below (T6.setTop (mkF m 46 #[.val (.ref o0), .val (.long key), .second, .val (.long val), .second, .val (.int sl), .val (.int (bi ((kf sl.toNatClampNeg) = (0 : Int64))))] [(.int (bi ((kf sl.toNatClampNeg) = (0 : Int64))))])) t := by
      intro t k
      show Steps p.tables e below (T6.setTop (mkF m 46 #[.val (.ref o0), .val (.long key), .second, .val (.long val), .second, .val (.int sl), .val (.int (bi ((kf sl.toNatClampNeg) = (0 : Int64))))] [(.int (bi ((kf sl.toNatClampNeg) = (0 : Int64))))])) t
      refine XS.ifYes X6.here hx rfl (pc0 := 46) (pc' := 60) rfl (hb hby d18_46) rfl (bi_eq_t h11) (by decide) (by decide) ?_
      exact k
    refine OFin.go S16 ?_
    have S17 : ∀ t, Steps p.tables e below (T6.setTop (mkF m 61 #[.val (.ref o0), .val (.long key), .second, .val (.long val), .second, .val (.int sl), .val (.int (bi ((kf sl.toNatClampNeg) = (0 : Int64))))] [(.ref o0)])) t → Steps p.tables e below (T6.setTop (mkF m 60 #[.val (.ref o0), .val (.long key), .second, .val (.long val), .second, .val (.int sl), .val (.int (bi ((kf sl.toNatClampNeg) = (0 : Int64))))] [])) t := by
      intro t k
      show Steps p.tables e below (T6.setTop (mkF m 60 #[.val (.ref o0), .val (.long key), .second, .val (.long val), .second, .val (.int sl), .val (.int (bi ((kf sl.toNatClampNeg) = (0 : Int64))))] [])) t
      refine XS.aloadN X6.here hx rfl (hb hby d18_60) rfl rfl ?_
      exact k
    refine OFin.go S17 ?_
    obtain ⟨T18, X18, e18, st18⟩ := getF X6 hx hZ hown (host := "") (Or.inl (hw _ (List.mem_of_getElem? (i := 76) rfl))) Via.refl e6 Fv (g := (mkF m 61 #[.val (.ref o0), .val (.long key), .second, .val (.long val), .second, .val (.int sl), .val (.int (bi ((kf sl.toNatClampNeg) = (0 : Int64))))] [(.ref o0)])) rfl rfl (hb hby d18_61)
    refine OFin.go st18 ?_
    show OFin p e below _ (T18.setTop (mkF m 64 #[.val (.ref o0), .val (.long key), .second, .val (.long val), .second, .val (.int sl), .val (.int (bi ((kf sl.toNatClampNeg) = (0 : Int64))))] [(.ref va)]))
    have S19 : ∀ t, Steps p.tables e below (T18.setTop (mkF m 67 #[.val (.ref o0), .val (.long key), .second, .val (.long val), .second, .val (.int sl), .val (.int (bi ((kf sl.toNatClampNeg) = (0 : Int64))))] [(.long val), (.int sl), (.ref va)])) t → Steps p.tables e below (T18.setTop (mkF m 64 #[.val (.ref o0), .val (.long key), .second, .val (.long val), .second, .val (.int sl), .val (.int (bi ((kf sl.toNatClampNeg) = (0 : Int64))))] [(.ref va)])) t := by
      intro t k
      show Steps p.tables e below (T18.setTop (mkF m 64 #[.val (.ref o0), .val (.long key), .second, .val (.long val), .second, .val (.int sl), .val (.int (bi ((kf sl.toNatClampNeg) = (0 : Int64))))] [(.ref va)])) t
      refine XS.iload X18.here hx rfl (hb hby d18_64) rfl ?_
      show Steps p.tables e below (T18.setTop (mkF m 66 #[.val (.ref o0), .val (.long key), .second, .val (.long val), .second, .val (.int sl), .val (.int (bi ((kf sl.toNatClampNeg) = (0 : Int64))))] [(.int sl), (.ref va)])) t
      refine XS.lloadN X18.here hx rfl (hb hby d18_66) rfl ?_
      exact k
    refine OFin.go S19 ?_
    obtain ⟨T20, h20, X20, e20, W20, st20⟩ := wrJ X18 hx hZ e18 Vv (i := sl.toNatClampNeg) hs0 rfl (own_fls hfn) (g := (mkF m 67 #[.val (.ref o0), .val (.long key), .second, .val (.long val), .second, .val (.int sl), .val (.int (bi ((kf sl.toNatClampNeg) = (0 : Int64))))] [(.long val), (.int sl), (.ref va)])) rfl rfl (hb hby d18_67)
    have V20 := Vv.set W20
    have N20 := Fr.snoc X20 N4 gev
    have Z20 : n0 ≤ h20.size := Nat.le_trans Z0 (wr_le W20)
    have K20 := Keep.wr K0 W20 (Or.inl (List.mem_of_getElem? (i := 2) rfl))
    refine OFin.go st20 ?_
    show OFin p e below _ (T20.setTop (mkF m 68 #[.val (.ref o0), .val (.long key), .second, .val (.long val), .second, .val (.int sl), .val (.int (bi ((kf sl.toNatClampNeg) = (0 : Int64))))] []))
    have S21 : ∀ t, Steps p.tables e below (T20.setTop (mkF m 70 #[.val (.ref o0), .val (.long key), .second, .val (.long val), .second, .val (.int sl), .val (.int (bi ((kf sl.toNatClampNeg) = (0 : Int64))))] [(.int (bi ((kf sl.toNatClampNeg) = (0 : Int64))))])) t → Steps p.tables e below (T20.setTop (mkF m 68 #[.val (.ref o0), .val (.long key), .second, .val (.long val), .second, .val (.int sl), .val (.int (bi ((kf sl.toNatClampNeg) = (0 : Int64))))] [])) t := by
      intro t k
      show Steps p.tables e below (T20.setTop (mkF m 68 #[.val (.ref o0), .val (.long key), .second, .val (.long val), .second, .val (.int sl), .val (.int (bi ((kf sl.toNatClampNeg) = (0 : Int64))))] [])) t
      refine XS.iload X20.here hx rfl (hb hby d18_68) rfl ?_
      exact k
    refine OFin.go S21 ?_
    have F22 := Fv.other W20 (Or.inl nov)
    have F23 := E0.wr W20
    have F24 := Fk.other W20 (Or.inl nov)
    have F25 := Fs.other W20 (Or.inl nov)
    have F26 := Ft.other W20 (Or.inl nov)
    have F27 := Va.other W20 nkv
    exact finZ X20 hx Bd.notSynchronized (t := .boolean) Bd.returns (by simp) (hb hby d18_70) (nar_bi _) (by decide) (by decide) (by rw [e20]; exact ⟨_, kf, upd vf sl.toNatClampNeg val, tk, rfl, N20, K20, F23, F24, F22, F25, F26, F27, (V20.congr (fun i _ => own_updl vf _ _ i)), ((own_setOld (val := val) hP hk (own_fls hfn) ((own_lk hfn).resolve_left h11)).1).mono (by omega), (own_setOld (val := val) hP hk (own_fls hfn) ((own_lk hfn).resolve_left h11)).2⟩)
theorem ef_rm16_v (m : MethodId) (o0 : Addr) (key : Int64) : entryFrame m #[(.ref o0), (.long key)] 3 = mkF m 0 #[.val (.ref o0), .val (.long key), .second] [] := by first | (simp [entryFrame, mkF, argsToLocals, Value.category]; done) | rfl
def Q_rm16_v (Z : State) (o0 : Addr) (key : Int64) (ka va : Addr) (kf vf : Nat → Int64) (tk : Int32) (mm : Nat) (h0 : Heap) (n0 : Nat) (v : Option Value) (h : Heap) (L : List Loc) : Prop := ∃ w' : Int64, v = some (.long w') ∧ Fr n0 L ∧ h = h0 ∧ (∀ w, In kf vf key w → w' = w) ∧ ((∀ w, ¬ In kf vf key w) → w' = 0)
theorem d16_11 : decode prog_33_method_5_code 11 = .ok (.aload_n 0, 1) := by decide +kernel
theorem d16_12 : decode prog_33_method_5_code 12 = .ok (.getfield 35, 3) := by decide +kernel
theorem d16_15 : decode prog_33_method_5_code 15 = .ok (.aload_n 0, 1) := by decide +kernel
theorem d16_16 : decode prog_33_method_5_code 16 = .ok (.lload_n 1, 1) := by decide +kernel
theorem d16_17 : decode prog_33_method_5_code 17 = .ok (.invokevirtual 27, 3) := by decide +kernel
theorem d16_20 : decode prog_33_method_5_code 20 = .ok (.laload, 1) := by decide +kernel
set_option maxRecDepth 65536 in
set_option maxHeartbeats 40000000 in
theorem rm16_v (l : Launch) (Z : State) (a0 : Array Value) (hw : ∀ d ∈ tables_1, d.before a0 Z = true) (ws : List Jvm.Cond) (o0 : Addr) (key : Int64) (ka va : Addr) (kf vf : Nat → Int64) (tk : Int32) (mm : Nat) (h0 : Heap) (n0 : Nat) (Z0 : n0 ≤ h0.size) (geo : n0 ≤ o0) (gek : n0 ≤ ka) (nok : o0 ≠ ka) (gev : n0 ≤ va) (nov : o0 ≠ va) (nkv : ka ≠ va) (E0 : Exa Z h0 o0 "com/example/clockwrap/clockwrap/store/LongTable$Part") (Fk : Fld Z h0 o0 "com/example/clockwrap/clockwrap/store/LongTable$Part" "keys" "[J" (.ref ka)) (Fv : Fld Z h0 o0 "com/example/clockwrap/clockwrap/store/LongTable$Part" "values" "[J" (.ref va)) (Fs : Fld Z h0 o0 "com/example/clockwrap/clockwrap/store/LongTable$Part" "shift" "I" (.int (60 : Int32))) (Ft : Fld Z h0 o0 "com/example/clockwrap/clockwrap/store/LongTable$Part" "taken" "I" (.int tk)) (Va : Ara Z h0 ka .long 16 (fun i => .long (kf i))) (Vv : Ara Z h0 va .long 16 (fun i => .long (vf i))) (hP : PI hm kf vf tk mm) (hm10 : mm < 10) (hk : key ≠ 0) :
    MetFree l (⟨"com/example/clockwrap/clockwrap/store/LongTable$Part", "get", "(J)J"⟩ : MethodName) (head1 (Jvm.Cond.code (⟨"com/example/clockwrap/clockwrap/store/LongTable$Part", "get", "(J)J"⟩ : MethodName) prog_33_method_5_code 3 (some .long) :: ws) ({ frames := 2, cells := 0, slots := 0, locals := 40 } : Room)) (fun a U => a = #[(.ref o0), (.long key)] ∧ Z.Warmed39 U.vm ∧ U.heap = h0) (fun _ _ _ _ _ => True) (fun _ U o U' => ∃ v L, o = .returned v ∧ (Q_rm16_v Z o0 key ka va kf vf tk mm h0 n0) v U'.heap L ∧ FrameEnd U o U' L ({ frames := 2, cells := 0, slots := 0, locals := 40 } : Room).cells ({ frames := 2, cells := 0, slots := 0, locals := 40 } : Room).slots) := by
  refine MetFree.of_bodySF (plainFor_of_name pn_1) hisR ?_
  intro p e s m args below meth c s₁ Bd hml0 hP hK
  obtain ⟨rfl, hZ, hh⟩ := hP
  have hx := Bd.exec
  have hby := Bd.bytes
  have hml : c.maxLocals = 3 := hml0
  have hown : s.vm.findClass "com/example/clockwrap/clockwrap/store/LongTable$Part" = some m.cls := findClass_of_methodNamed Bd.named
  have hnm := (name_of_methodNamed Bd.named Bd.method).1
  have X0 : Stand p l e ({ frames := 2, cells := 0, slots := 0, locals := 40 } : Room) s m #[(.ref o0), (.long key)] below meth c s₁ [] 0 0 := Stand.of_body Bd
  have e0 : s₁.heap = h0 := by rw [← hh, Bd.state]; rfl
  have N0 := Fr.nil n0
  show OFin p e below (ORet (Q_rm16_v Z o0 key ka va kf vf tk mm h0 n0) s ({ frames := 2, cells := 0, slots := 0, locals := 40 } : Room).cells ({ frames := 2, cells := 0, slots := 0, locals := 40 } : Room).slots) (s₁.setTop (entryFrame m #[(.ref o0), (.long key)] 3))
  refine OFin.go (fun t k => castTop (ef_rm16_v m o0 key) k) ?_
  have K0 := Keep.refl h0 [o0, ka, va]
  show OFin p e below (ORet (Q_rm16_v Z o0 key ka va kf vf tk mm h0 n0) s ({ frames := 2, cells := 0, slots := 0, locals := 40 } : Room).cells ({ frames := 2, cells := 0, slots := 0, locals := 40 } : Room).slots) (s₁.setTop (mkF m 0 #[.val (.ref o0), .val (.long key), .second] []))
  have S1 : ∀ t, Steps p.tables e below (s₁.setTop (mkF m 1 #[.val (.ref o0), .val (.long key), .second] [(.ref o0)])) t → Steps p.tables e below (s₁.setTop (mkF m 0 #[.val (.ref o0), .val (.long key), .second] [])) t := by
    intro t k
    show Steps p.tables e below (s₁.setTop (mkF m 0 #[.val (.ref o0), .val (.long key), .second] [])) t
    refine XS.aloadN X0.here hx rfl (hb hby d16_0) rfl rfl ?_
    exact k
  refine OFin.go S1 ?_
  obtain ⟨T2, X2, e2, st2⟩ := getF X0 hx hZ hown (host := "") (Or.inl (hw _ (List.mem_of_getElem? (i := 76) rfl))) Via.refl e0 Fv (g := (mkF m 1 #[.val (.ref o0), .val (.long key), .second] [(.ref o0)])) rfl rfl (hb hby d16_1)
  refine OFin.go st2 ?_
  show OFin p e below _ (T2.setTop (mkF m 4 #[.val (.ref o0), .val (.long key), .second] [(.ref va)]))
  refine OFin.go (fun t k => ?_ : ∀ t, Steps p.tables e below (T2.setTop (mkF m 11 #[.val (.ref o0), .val (.long key), .second] [])) t → Steps p.tables e below (T2.setTop (mkF m 4 #[.val (.ref o0), .val (.long key), .second] [(.ref va)])) t) ?_
  · show Steps p.tables e below (T2.setTop (mkF m 4 #[.val (.ref o0), .val (.long key), .second] [(.ref va)])) t
    refine XS.ifnonnullYes X2.here hx rfl (pc0 := 4) (pc' := 11) rfl (hb hby d16_4) rfl (by decide) (by decide) ?_
    exact k
  have S3 : ∀ t, Steps p.tables e below (T2.setTop (mkF m 12 #[.val (.ref o0), .val (.long key), .second] [(.ref o0)])) t → Steps p.tables e below (T2.setTop (mkF m 11 #[.val (.ref o0), .val (.long key), .second] [])) t := by
    intro t k
    show Steps p.tables e below (T2.setTop (mkF m 11 #[.val (.ref o0), .val (.long key), .second] [])) t
    refine XS.aloadN X2.here hx rfl (hb hby d16_11) rfl rfl ?_
    exact k
  refine OFin.go S3 ?_
  obtain ⟨T4, X4, e4, st4⟩ := getF X2 hx hZ hown (host := "") (Or.inl (hw _ (List.mem_of_getElem? (i := 76) rfl))) Via.refl e2 Fv (g := (mkF m 12 #[.val (.ref o0), .val (.long key), .second] [(.ref o0)])) rfl rfl (hb hby d16_12)
  refine OFin.go st4 ?_
  show OFin p e below _ (T4.setTop (mkF m 15 #[.val (.ref o0), .val (.long key), .second] [(.ref va)]))
  have S5 : ∀ t, Steps p.tables e below (T4.setTop (mkF m 17 #[.val (.ref o0), .val (.long key), .second] [(.long key), (.ref o0), (.ref va)])) t → Steps p.tables e below (T4.setTop (mkF m 15 #[.val (.ref o0), .val (.long key), .second] [(.ref va)])) t := by
    intro t k
    show Steps p.tables e below (T4.setTop (mkF m 15 #[.val (.ref o0), .val (.long key), .second] [(.ref va)])) t
    refine XS.aloadN X4.here hx rfl (hb hby d16_15) rfl rfl ?_
    show Steps p.tables e below (T4.setTop (mkF m 16 #[.val (.ref o0), .val (.long key), .second] [(.ref o0), (.ref va)])) t
    refine XS.lloadN X4.here hx rfl (hb hby d16_16) rfl ?_
    exact k
  refine OFin.go S5 ?_
  obtain ⟨_, T6, Lc6, X6, hQ6, st6⟩ := privQ X4 hx hZ (y := (⟨"com/example/clockwrap/clockwrap/store/LongTable$Part", "slot", "(J)I"⟩ : MethodName)) hown (hw _ (List.mem_of_getElem? (i := 53) rfl)) (hw _ (List.mem_of_getElem? (i := 54) rfl)) (hw _ (List.mem_of_getElem? (i := 14) rfl)) (hw _ (List.mem_of_getElem? (i := 56) rfl)) (hw _ (List.mem_of_getElem? (i := 55) rfl)) (hw _ (List.mem_of_getElem? (i := 13) rfl)) (by decide) E0 (argsL := [(.long key)]) (rest := [(.ref va)]) (rm10 l Z a0 hw [] o0 key ka kf h0 n0 Z0 E0 Fs Fk Va (hP.free (by omega))) (W := 1) (by decide) (by decide) e4 (g := (mkF m 17 #[.val (.ref o0), .val (.long key), .second] [(.long key), (.ref o0), (.ref va)])) rfl (by rw [hml]; rfl) (lenOf pd_1 rfl) rfl (by show 2 * 0 + _ ≤ _; exact Nat.le_of_eq rfl) (hb hby d16_17) (Nat.le_of_ble_eq_true rfl) (Nat.le_of_ble_eq_true rfl)
  obtain ⟨sl, rfl, N6q, e6, hs0, hfn⟩ := hQ6
  have N6 := Fr.app N0 N6q
  refine OFin.go st6 ?_
  show OFin p e below _ (T6.setTop (mkF m 20 #[.val (.ref o0), .val (.long key), .second] [(.int sl), (.ref va)]))
  have S7 : ∀ t, Steps p.tables e below (T6.setTop (mkF m 21 #[.val (.ref o0), .val (.long key), .second] [(.long (vf sl.toNatClampNeg))])) t → Steps p.tables e below (T6.setTop (mkF m 20 #[.val (.ref o0), .val (.long key), .second] [(.int sl), (.ref va)])) t := by
    intro t k
    show Steps p.tables e below (T6.setTop (mkF m 20 #[.val (.ref o0), .val (.long key), .second] [(.int sl), (.ref va)])) t
    refine rdJ X6 hx hZ e6 Vv (i := sl.toNatClampNeg) hs0 rfl (own_fls hfn) (x := (.long (vf sl.toNatClampNeg))) rfl (g := (mkF m 20 #[.val (.ref o0), .val (.long key), .second] [(.int sl), (.ref va)])) rfl rfl (hb hby d16_20) ?_
    exact k
  refine OFin.go S7 ?_
  exact finJ X6 hx Bd.notSynchronized Bd.returns (hb hby d16_21) (by decide) (by decide) (⟨(vf sl.toNatClampNeg), rfl, N6, e6, fun w q => own_get1 hP hk hfn q, fun q => own_get2 hP hfn q⟩)
def PTn (Z : State) (h : Heap) (o0 ka : Addr) (kf vf : Nat → Int64) (tk : Int32) : Prop := Exa Z h o0 "com/example/clockwrap/clockwrap/store/LongTable$Part" ∧ Fld Z h o0 "com/example/clockwrap/clockwrap/store/LongTable$Part" "keys" "[J" (.ref ka) ∧ Fld Z h o0 "com/example/clockwrap/clockwrap/store/LongTable$Part" "values" "[J" .null ∧ Fld Z h o0 "com/example/clockwrap/clockwrap/store/LongTable$Part" "shift" "I" (.int (60 : Int32)) ∧ Fld Z h o0 "com/example/clockwrap/clockwrap/store/LongTable$Part" "taken" "I" (.int tk) ∧ Ara Z h ka .long 16 (fun i => .long (kf i))
def PTv (Z : State) (h : Heap) (o0 ka va : Addr) (kf vf : Nat → Int64) (tk : Int32) : Prop := Exa Z h o0 "com/example/clockwrap/clockwrap/store/LongTable$Part" ∧ Fld Z h o0 "com/example/clockwrap/clockwrap/store/LongTable$Part" "keys" "[J" (.ref ka) ∧ Fld Z h o0 "com/example/clockwrap/clockwrap/store/LongTable$Part" "values" "[J" (.ref va) ∧ Fld Z h o0 "com/example/clockwrap/clockwrap/store/LongTable$Part" "shift" "I" (.int (60 : Int32)) ∧ Fld Z h o0 "com/example/clockwrap/clockwrap/store/LongTable$Part" "taken" "I" (.int tk) ∧ Ara Z h ka .long 16 (fun i => .long (kf i)) ∧ Ara Z h va .long 16 (fun i => .long (vf i))
def PT (Z : State) (h : Heap) (o0 : Addr) (FF : List Addr) (kf vf : Nat → Int64) (tk : Int32) : Prop := (∃ ka, FF = [o0, ka] ∧ o0 ≠ ka ∧ PTn Z h o0 ka kf vf tk ∧ ∀ i, vf i = 0) ∨ (∃ ka va, FF = [o0, ka, va] ∧ o0 ≠ ka ∧ o0 ≠ va ∧ ka ≠ va ∧ PTv Z h o0 ka va kf vf tk)
theorem PT.keep {Z : State} {h : Heap} {o0 : Addr} {FF : List Addr} {kf vf : Nat → Int64} {tk : Int32} (P : PT Z h o0 FF kf vf tk) {h' : Heap} {ws : List Addr} (K : Keep h h' ws) (q : ∀ x ∈ FF, x ∉ ws) : PT Z h' o0 FF kf vf tk := by
  rcases P with ⟨ka, rfl, n1, ⟨E, f1, f2, f3, f4, A⟩, hv⟩ | ⟨ka, va, rfl, n1, n2, n3, E, f1, f2, f3, f4, A, B⟩
  · have a := q o0 (.head _)
    have b := q ka (.tail _ (.head _))
    exact Or.inl ⟨ka, rfl, n1, ⟨E.keep K, f1.keep K a, f2.keep K a, f3.keep K a, f4.keep K a, A.keep K b⟩, hv⟩
  · have a := q o0 (.head _)
    have b := q ka (.tail _ (.head _))
    have c := q va (.tail _ (.tail _ (.head _)))
    exact Or.inr ⟨ka, va, rfl, n1, n2, n3, E.keep K, f1.keep K a, f2.keep K a, f3.keep K a, f4.keep K a, A.keep K b, B.keep K c⟩
theorem PT.lt {Z : State} {h : Heap} {o0 : Addr} {FF : List Addr} {kf vf : Nat → Int64} {tk : Int32} (P : PT Z h o0 FF kf vf tk) : ∀ x ∈ FF, x < h.size := by
  rcases P with ⟨ka, rfl, n1, ⟨E, f1, f2, f3, f4, A⟩, hv⟩ | ⟨ka, va, rfl, n1, n2, n3, E, f1, f2, f3, f4, A, B⟩
  · exact allS E.lt (allS A.lt all0)
  · exact allS E.lt (allS A.lt (allS B.lt all0))
theorem PT.exa {Z : State} {h : Heap} {o0 : Addr} {FF : List Addr} {kf vf : Nat → Int64} {tk : Int32} (P : PT Z h o0 FF kf vf tk) : Exa Z h o0 "com/example/clockwrap/clockwrap/store/LongTable$Part" := by
  rcases P with ⟨ka, rfl, n1, ⟨E, f1, f2, f3, f4, A⟩, hv⟩ | ⟨ka, va, rfl, n1, n2, n3, E, f1, f2, f3, f4, A, B⟩
  · exact E
  · exact E
/-- what a part's operation leaves behind -/
def QP (R : (Int64 → Int64 → Prop) → Int64 → Int64 → Prop) (Z : State) (o0 : Addr) (FF : List Addr) (kf vf : Nat → Int64) (mm : Nat) (h0 : Heap) (n0 : Nat) (v : Option Value) (h : Heap) (L : List Loc) : Prop :=
  ∃ (b : Int32) (F' : List Addr) (kf' vf' : Nat → Int64) (tk' : Int32), v = some (.int b) ∧ Fr n0 L ∧ Keep h0 h FF ∧ PT Z h o0 F' kf' vf' tk' ∧ (∀ x ∈ F', x ∈ FF ∨ h0.size ≤ x) ∧ PI hm kf' vf' tk' (mm + 1) ∧ ∀ kk vv, kk ≠ 0 → (In kf' vf' kk vv ↔ R (In kf vf) kk vv)
theorem p_add (l : Launch) (Z : State) (a0 : Array Value) (hw : ∀ d ∈ tables_1, d.before a0 Z = true) (o0 : Addr) (key : Int64) (FF : List Addr) (kf vf : Nat → Int64) (tk : Int32) (mm : Nat) (h0 : Heap) (n0 : Nat) (Z0 : n0 ≤ h0.size) (hT : PT Z h0 o0 FF kf vf tk) (hge : ∀ x ∈ FF, n0 ≤ x) (hP : PI hm kf vf tk mm) (hm10 : mm < 10) (hk : key ≠ 0) :
    Meets1 l (⟨"com/example/clockwrap/clockwrap/store/LongTable$Part", "add", "(J)Z"⟩ : MethodName) prog_33_method_3_code 5 (some .boolean) ({ frames := 2, cells := 0, slots := 0, locals := 40 } : Room) Z #[.ref o0, .long key] h0 (QP (addM key) Z o0 FF kf vf mm h0 n0) := by
  rcases hT with ⟨ka, rfl, nok, ⟨E0, Fk, Fv, Fs, Ft, Va⟩, hv0⟩ | ⟨ka, va, rfl, nok, nov, nkv, E0, Fk, Fv, Fs, Ft, Va, Vv⟩
  · refine MetFree.mono (rm13_n l Z a0 hw [] o0 key ka kf vf tk mm h0 n0 Z0 (hge _ (.head _)) (hge _ (.tail _ (.head _))) nok E0 Fk Fv Fs Ft Va hP hm10 hk) (fun _ _ q => q) (fun _ _ _ _ _ q => q) ?_
    rintro _ U o U' - ⟨v, L, rfl, ⟨b, kf', vf', tk', rfl, N, K, E, f1, f2, f3, f4, A, P', I, nv⟩, hE⟩
    exact ⟨_, L, rfl, ⟨b, [o0, ka], kf', vf', tk', rfl, N, K, Or.inl ⟨ka, rfl, nok, ⟨E, f1, f2, f3, f4, A⟩, nv hv0⟩, fun x q => Or.inl q, P', I⟩, hE⟩
  · refine MetFree.mono (rm13_v l Z a0 hw [] o0 key ka va kf vf tk mm h0 n0 Z0 (hge _ (.head _)) (hge _ (.tail _ (.head _))) nok (hge _ (.tail _ (.tail _ (.head _)))) nov nkv E0 Fk Fv Fs Ft Va Vv hP hm10 hk) (fun _ _ q => q) (fun _ _ _ _ _ q => q) ?_
    rintro _ U o U' - ⟨v, L, rfl, ⟨b, kf', vf', tk', rfl, N, K, E, f1, f2, f3, f4, A, B, P', I, nv⟩, hE⟩
    exact ⟨_, L, rfl, ⟨b, [o0, ka, va], kf', vf', tk', rfl, N, K, Or.inr ⟨ka, va, rfl, nok, nov, nkv, E, f1, f2, f3, f4, A, B⟩, fun x q => Or.inl q, P', I⟩, hE⟩
theorem p_remove (l : Launch) (Z : State) (a0 : Array Value) (hw : ∀ d ∈ tables_1, d.before a0 Z = true) (o0 : Addr) (key : Int64) (FF : List Addr) (kf vf : Nat → Int64) (tk : Int32) (mm : Nat) (h0 : Heap) (n0 : Nat) (Z0 : n0 ≤ h0.size) (hT : PT Z h0 o0 FF kf vf tk) (hge : ∀ x ∈ FF, n0 ≤ x) (hP : PI hm kf vf tk mm) (hm10 : mm < 10) (hk : key ≠ 0) :
    Meets1 l (⟨"com/example/clockwrap/clockwrap/store/LongTable$Part", "remove", "(J)Z"⟩ : MethodName) prog_33_method_6_code 5 (some .boolean) ({ frames := 2, cells := 0, slots := 0, locals := 40 } : Room) Z #[.ref o0, .long key] h0 (QP (remM key) Z o0 FF kf vf mm h0 n0) := by
  rcases hT with ⟨ka, rfl, nok, ⟨E0, Fk, Fv, Fs, Ft, Va⟩, hv0⟩ | ⟨ka, va, rfl, nok, nov, nkv, E0, Fk, Fv, Fs, Ft, Va, Vv⟩
  · refine MetFree.mono (rm9_n l Z a0 hw [] o0 key ka kf vf tk mm h0 n0 Z0 (hge _ (.head _)) (hge _ (.tail _ (.head _))) nok E0 Fk Fv Fs Ft Va hP hm10 hk) (fun _ _ q => q) (fun _ _ _ _ _ q => q) ?_
    rintro _ U o U' - ⟨v, L, rfl, ⟨b, kf', vf', tk', rfl, N, K, E, f1, f2, f3, f4, A, P', I, nv⟩, hE⟩
    exact ⟨_, L, rfl, ⟨b, [o0, ka], kf', vf', tk', rfl, N, K, Or.inl ⟨ka, rfl, nok, ⟨E, f1, f2, f3, f4, A⟩, nv hv0⟩, fun x q => Or.inl q, P', I⟩, hE⟩
  · refine MetFree.mono (rm9_v l Z a0 hw [] o0 key ka va kf vf tk mm h0 n0 Z0 (hge _ (.head _)) (hge _ (.tail _ (.head _))) nok (hge _ (.tail _ (.tail _ (.head _)))) nov nkv E0 Fk Fv Fs Ft Va Vv hP hm10 hk) (fun _ _ q => q) (fun _ _ _ _ _ q => q) ?_
    rintro _ U o U' - ⟨v, L, rfl, ⟨b, kf', vf', tk', rfl, N, K, E, f1, f2, f3, f4, A, B, P', I, nv⟩, hE⟩
    exact ⟨_, L, rfl, ⟨b, [o0, ka, va], kf', vf', tk', rfl, N, K, Or.inr ⟨ka, va, rfl, nok, nov, nkv, E, f1, f2, f3, f4, A, B⟩, fun x q => Or.inl q, P', I⟩, hE⟩
theorem p_put (l : Launch) (Z : State) (a0 : Array Value) (hw : ∀ d ∈ tables_1, d.before a0 Z = true) (o0 : Addr) (key val : Int64) (FF : List Addr) (kf vf : Nat → Int64) (tk : Int32) (mm : Nat) (h0 : Heap) (n0 : Nat) (Z0 : n0 ≤ h0.size) (hT : PT Z h0 o0 FF kf vf tk) (hge : ∀ x ∈ FF, n0 ≤ x) (hP : PI hm kf vf tk mm) (hm10 : mm < 10) (hk : key ≠ 0) :
    Meets1 l (⟨"com/example/clockwrap/clockwrap/store/LongTable$Part", "put", "(JJ)Z"⟩ : MethodName) prog_33_method_4_code 7 (some .boolean) ({ frames := 2, cells := 1, slots := 16, locals := 40 } : Room) Z #[.ref o0, .long key, .long val] h0 (QP (putM key val) Z o0 FF kf vf mm h0 n0) := by
  rcases hT with ⟨ka, rfl, nok, ⟨E0, Fk, Fv, Fs, Ft, Va⟩, hv0⟩ | ⟨ka, va, rfl, nok, nov, nkv, E0, Fk, Fv, Fs, Ft, Va, Vv⟩
  · obtain rfl : vf = fun _ => 0 := funext hv0
    refine MetFree.mono (rm18_n l Z a0 hw [] o0 key val ka kf tk mm h0 n0 Z0 (hge _ (.head _)) (hge _ (.tail _ (.head _))) nok E0 Fk Fv Fs Ft Va hP hm10 hk) (fun _ _ q => q) (fun _ _ _ _ _ q => q) ?_
    rintro _ U o U' - ⟨v, L, rfl, ⟨b, va, kf', vf', tk', rfl, N, K, E, f1, f2, f3, f4, A, B, sv, nov, nkv, P', I⟩, hE⟩
    exact ⟨_, L, rfl, ⟨b, [o0, ka, va], kf', vf', tk', rfl, N, K, Or.inr ⟨ka, va, rfl, nok, nov, nkv, E, f1, f2, f3, f4, A, B⟩, allS (Or.inl (.head _)) (allS (Or.inl (.tail _ (.head _))) (allS (Or.inr sv) all0)), P', I⟩, hE⟩
  · refine MetFree.mono (rm18_v l Z a0 hw [] o0 key val ka va kf vf tk mm h0 n0 Z0 (hge _ (.head _)) (hge _ (.tail _ (.head _))) nok (hge _ (.tail _ (.tail _ (.head _)))) nov nkv E0 Fk Fv Fs Ft Va Vv hP hm10 hk) (fun _ _ q => q) (fun _ _ _ _ _ q => q) ?_
    rintro _ U o U' - ⟨v, L, rfl, ⟨b, kf', vf', tk', rfl, N, K, E, f1, f2, f3, f4, A, B, P', I⟩, hE⟩
    exact ⟨_, L, rfl, ⟨b, [o0, ka, va], kf', vf', tk', rfl, N, K, Or.inr ⟨ka, va, rfl, nok, nov, nkv, E, f1, f2, f3, f4, A, B⟩, fun x q => Or.inl q, P', I⟩, hE⟩
def Q_pget (key : Int64) (kf vf : Nat → Int64) (h0 : Heap) (n0 : Nat) (v : Option Value) (h : Heap) (L : List Loc) : Prop := ∃ w' : Int64, v = some (.long w') ∧ Fr n0 L ∧ h = h0 ∧ (∀ w, In kf vf key w → w' = w) ∧ ((∀ w, ¬ In kf vf key w) → w' = 0)
theorem p_get (l : Launch) (Z : State) (a0 : Array Value) (hw : ∀ d ∈ tables_1, d.before a0 Z = true) (o0 : Addr) (key : Int64) (FF : List Addr) (kf vf : Nat → Int64) (tk : Int32) (mm : Nat) (h0 : Heap) (n0 : Nat) (Z0 : n0 ≤ h0.size) (hT : PT Z h0 o0 FF kf vf tk) (hge : ∀ x ∈ FF, n0 ≤ x) (hP : PI hm kf vf tk mm) (hm10 : mm < 10) (hk : key ≠ 0) :
    Meets1 l (⟨"com/example/clockwrap/clockwrap/store/LongTable$Part", "get", "(J)J"⟩ : MethodName) prog_33_method_5_code 3 (some .long) ({ frames := 2, cells := 0, slots := 0, locals := 40 } : Room) Z #[.ref o0, .long key] h0 (Q_pget key kf vf h0 n0) := by
  rcases hT with ⟨ka, rfl, nok, ⟨E0, Fk, Fv, Fs, Ft, Va⟩, hv0⟩ | ⟨ka, va, rfl, nok, nov, nkv, E0, Fk, Fv, Fs, Ft, Va, Vv⟩
  · refine MetFree.mono (rm16_n l Z a0 hw [] o0 key ka kf vf tk mm h0 n0 Z0 (hge _ (.head _)) (hge _ (.tail _ (.head _))) nok E0 Fk Fv Fs Ft Va hP hm10 hk hv0) (fun _ _ q => q) (fun _ _ _ _ _ q => q) ?_
    rintro _ U o U' - ⟨v, L, rfl, hQ, hE⟩
    exact ⟨_, L, rfl, hQ, hE⟩
  · refine MetFree.mono (rm16_v l Z a0 hw [] o0 key ka va kf vf tk mm h0 n0 Z0 (hge _ (.head _)) (hge _ (.tail _ (.head _))) nok (hge _ (.tail _ (.tail _ (.head _)))) nov nkv E0 Fk Fv Fs Ft Va Vv hP hm10 hk) (fun _ _ q => q) (fun _ _ _ _ _ q => q) ?_
    rintro _ U o U' - ⟨v, L, rfl, hQ, hE⟩
    exact ⟨_, L, rfl, hQ, hE⟩
/-- the part that a key belongs to -/
def ixI (k : Int64) : Int32 := ((((k * (-7046029254386353131 : Int64)).toUInt64 >>> ((58 : Int32) &&& 0x3f).toInt64.toUInt64).toInt64).toInt32)
def ix (k : Int64) : Nat := (ixI k).toNatClampNeg
theorem ix_spec (k : Int64) : ¬ ixI k < 0 ∧ (ixI k).toInt < 64 := by
  unfold ixI
  generalize (k * (-7046029254386353131 : Int64)) = x
  have h1 := c_lushr x 58 58 (by decide) (by decide)
  have h2 : 0 ≤ x.toInt % 18446744073709551616 := Int.emod_nonneg _ (by decide)
  have h3 : x.toInt % 18446744073709551616 < 18446744073709551616 := Int.emod_lt_of_pos _ (by decide)
  generalize ((x.toUInt64 >>> ((58 : Int32) &&& 0x3f).toInt64.toUInt64).toInt64) = w at *
  have h4 := c_l2i w
  have h5 := w.toInt32.toInt_lt; have h6 := w.toInt32.le_toInt
  rw [Int32.lt_iff_toInt_lt]
  simp only [Int32.reduceToInt]
  have e : ((2 ^ 58 : Nat) : Int) = 288230376151711744 := by decide
  rw [e] at h1
  omega
theorem ix_lt (k : Int64) : ix k < 64 := by
  have h := ix_spec k
  have := nat_of h.1
  unfold ix; omega
theorem own_inc1 {ii : Int32} {nn : Nat} (h : ii.toInt = nn) (q : nn < 64) : (ii + (1 : Int32)).toInt = ((nn + 1 : Nat) : Int) := by
  have := c_iadd ii 1; have := (ii + 1).toInt_lt; have := (ii + 1).le_toInt; simp only [Int32.reduceToInt] at *; omega
theorem own_ixn {ii : Int32} {nn : Nat} (h : ii.toInt = nn) : ¬ ii < 0 ∧ ii.toNatClampNeg = nn := by
  have h0 : ¬ ii < 0 := by rw [Int32.lt_iff_toInt_lt]; simp only [Int32.reduceToInt]; omega
  have := nat_of h0
  exact ⟨h0, by omega⟩
theorem own_pi0 : PI hm (fun _ => 0) (fun _ => 0) 0 0 := ⟨fun s _ h => absurd rfl h, fun s t _ _ h _ => absurd rfl h, ⟨[], Nat.le_refl _, fun s _ h => absurd rfl h⟩, fun _ _ _ => rfl, by decide, by decide⟩
theorem own_arst (nn : Nat) (pa : Nat → Addr) (o : Addr) (i : Nat) : upd (fun i => if i < nn then Value.ref (pa i) else .null) nn (.ref o) i = if i < nn + 1 then .ref (upd pa nn o i) else .null := by
  unfold upd; dsimp only
  by_cases q : i = nn
  · subst q; rw [if_pos rfl, if_pos rfl, if_pos (show i < i + 1 by omega)]
  · rw [if_neg q, if_neg q]
    by_cases r : i < nn
    · rw [if_pos r, if_pos (show i < nn + 1 by omega)]
    · rw [if_neg r, if_neg (show ¬ i < nn + 1 by omega)]
/-- the first n parts; z: all their objects lie below it -/
def FAM (Z : State) (h : Heap) (n n0 z : Nat) (tb pr : Addr) (pa : Nat → Addr) (FF : Nat → List Addr) (KK VV : Nat → Nat → Int64) (TT : Nat → Int32) (mm : Nat) : Prop :=
  (∀ i, i < n → PT Z h (pa i) (FF i) (KK i) (VV i) (TT i) ∧ PI hm (KK i) (VV i) (TT i) mm ∧ ∀ x ∈ FF i, n0 ≤ x ∧ x < z ∧ x ≠ tb ∧ x ≠ pr) ∧
  ∀ i j, i < n → j < n → i ≠ j → ∀ x ∈ FF i, x ∉ FF j
section FAM
variable {Z : State} {h h' : Heap} {n n0 z : Nat} {tb pr : Addr} {pa : Nat → Addr} {FF : Nat → List Addr} {KK VV : Nat → Nat → Int64} {TT : Nat → Int32} {mm : Nat} {ws : List Addr}
theorem FAM.keep (H : FAM Z h n n0 z tb pr pa FF KK VV TT mm) (K : Keep h h' ws) (q : ∀ x ∈ ws, x = tb ∨ x = pr ∨ z ≤ x) : FAM Z h' n n0 z tb pr pa FF KK VV TT mm := by
  refine ⟨fun i hi => ?_, H.2⟩
  obtain ⟨a1, a2, a3⟩ := H.1 i hi
  refine ⟨a1.keep K (fun x hx r => ?_), a2, a3⟩
  obtain ⟨b1, b2, b3, b4⟩ := a3 x hx
  rcases q x r with e | e | e
  · exact b3 e
  · exact b4 e
  · exact absurd b2 (Nat.not_lt.mpr e)
theorem FAM.mono {mm' : Nat} (H : FAM Z h n n0 z tb pr pa FF KK VV TT mm) (q : mm ≤ mm') : FAM Z h n n0 z tb pr pa FF KK VV TT mm' := ⟨fun i hi => ⟨(H.1 i hi).1, (H.1 i hi).2.1.mono q, (H.1 i hi).2.2⟩, H.2⟩
theorem FAM.snoc (H : FAM Z h n n0 z tb pr pa FF KK VV TT mm) {o : Addr} {Fo : List Addr} (hT : PT Z h o Fo (KK n) (VV n) (TT n)) (hP : PI hm (KK n) (VV n) (TT n) mm) (hs : ∀ x ∈ Fo, z ≤ x ∧ n0 ≤ x ∧ x ≠ tb ∧ x ≠ pr) (hz : z ≤ h.size) : FAM Z h (n + 1) n0 h.size tb pr (upd pa n o) (upd FF n Fo) KK VV TT mm := by
  refine ⟨fun i hi => ?_, fun i j hi hj ne x hx hx' => ?_⟩
  · by_cases q : i = n
    · subst q
      rw [upd_hit, upd_hit]
      exact ⟨hT, hP, fun x hx => ⟨(hs x hx).2.1, hT.lt x hx, (hs x hx).2.2⟩⟩
    · rw [upd_miss q, upd_miss q]
      obtain ⟨a1, a2, a3⟩ := H.1 i (by omega)
      exact ⟨a1, a2, fun x hx => ⟨(a3 x hx).1, Nat.lt_of_lt_of_le (a3 x hx).2.1 hz, (a3 x hx).2.2⟩⟩
  · by_cases q : i = n
    · subst q
      rw [upd_hit] at hx
      rw [upd_miss (fun r => ne r.symm)] at hx'
      exact absurd ((H.1 j (by omega)).2.2 x hx').2.1 (Nat.not_lt.mpr (hs x hx).1)
    · rw [upd_miss q] at hx
      by_cases r : j = n
      · subst r
        rw [upd_hit] at hx'
        exact absurd ((H.1 i (by omega)).2.2 x hx).2.1 (Nat.not_lt.mpr (hs x hx').1)
      · rw [upd_miss r] at hx'
        exact H.2 i j (by omega) (by omega) ne x hx hx'
/-- one part has been worked on -/
theorem own_B (H : FAM Z h 64 n0 z tb pr pa FF KK VV TT mm) {i : Nat} (hi : i < 64) (hz : z ≤ h.size) (htb : tb < h.size) (hpr : pr < h.size) (hn : n0 ≤ h.size) (Kq : Keep h h' (FF i)) {F' : List Addr} {kf' vf' : Nat → Int64} {tk' : Int32} (hT : PT Z h' (pa i) F' kf' vf' tk') (hs : ∀ x ∈ F', x ∈ FF i ∨ h.size ≤ x) (hP : PI hm kf' vf' tk' (mm + 1)) {Wl : List Addr} (wtb : tb ∈ Wl) (wpr : pr ∈ Wl) (wF : ∀ j, j < 64 → ∀ x ∈ FF j, x ∈ Wl) (wW : ∀ x ∈ Wl, n0 ≤ x ∧ x < z) :
    FAM Z h' 64 n0 h'.size tb pr pa (upd FF i F') (upd KK i kf') (upd VV i vf') (upd TT i tk') (mm + 1) ∧ (tb ∈ Wl ++ F' ∧ pr ∈ Wl ++ F' ∧ (∀ j, j < 64 → ∀ x ∈ upd FF i F' j, x ∈ Wl ++ F') ∧ ∀ x ∈ Wl ++ F', n0 ≤ x ∧ x < h'.size) ∧ ∀ x ∈ Wl ++ F', x ∈ Wl ∨ h.size ≤ x := by
  have hF : ∀ x ∈ F', n0 ≤ x ∧ x < h'.size ∧ x ≠ tb ∧ x ≠ pr := fun x hx => by
    have a1 := hT.lt x hx
    rcases hs x hx with q | q
    · have b := (H.1 i hi).2.2 x q
      exact ⟨b.1, a1, b.2.2⟩
    · exact ⟨Nat.le_trans hn q, a1, Nat.ne_of_gt (Nat.lt_of_lt_of_le htb q), Nat.ne_of_gt (Nat.lt_of_lt_of_le hpr q)⟩
  have hzz : z ≤ h'.size := Nat.le_trans hz Kq.1
  refine ⟨⟨fun j hj => ?_, fun a b ha hb ne x hx hx' => ?_⟩, ⟨List.mem_append_left _ wtb, List.mem_append_left _ wpr, fun j hj x hx => ?_, fun x hx => ?_⟩, fun x hx => ?_⟩
  · by_cases q : j = i
    · subst q
      rw [upd_hit, upd_hit, upd_hit, upd_hit]
      exact ⟨hT, hP, hF⟩
    · rw [upd_miss q, upd_miss q, upd_miss q, upd_miss q]
      obtain ⟨a1, a2, a3⟩ := H.1 j hj
      exact ⟨a1.keep Kq (fun x hx => H.2 j i hj hi q x hx), a2.mono (Nat.le_succ _), fun x hx => ⟨(a3 x hx).1, Nat.lt_of_lt_of_le (a3 x hx).2.1 hzz, (a3 x hx).2.2⟩⟩
  · by_cases q : a = i
    · subst q
      rw [upd_hit] at hx
      rw [upd_miss (fun r => ne r.symm)] at hx'
      rcases hs x hx with r | r
      · exact H.2 a b ha hb ne x r hx'
      · exact absurd ((H.1 b hb).2.2 x hx').2.1 (Nat.not_lt.mpr (Nat.le_trans hz r))
    · rw [upd_miss q] at hx
      by_cases r : b = i
      · subst r
        rw [upd_hit] at hx'
        rcases hs x hx' with r' | r'
        · exact H.2 a b ha hb ne x hx r'
        · exact absurd ((H.1 a ha).2.2 x hx).2.1 (Nat.not_lt.mpr (Nat.le_trans hz r'))
      · rw [upd_miss r] at hx'
        exact H.2 a b ha hb ne x hx hx'
  · by_cases q : j = i
    · subst q; rw [upd_hit] at hx; exact List.mem_append_right _ hx
    · rw [upd_miss q] at hx; exact List.mem_append_left _ (wF j hj x hx)
  · rcases List.mem_append.mp hx with q | q
    · exact ⟨(wW x q).1, Nat.lt_of_lt_of_le (wW x q).2 hzz⟩
    · exact ⟨(hF x q).1, (hF x q).2.1⟩
  · rcases List.mem_append.mp hx with q | q
    · exact Or.inl q
    · exact (hs x q).elim (fun r => Or.inl (wF i hi x r)) Or.inr
end FAM
/-- the table tb, its objects Wl, behind mm operations, bears the map M -/
def TBL (Z : State) (h : Heap) (n0 : Nat) (tb : Addr) (Wl : List Addr) (mm : Nat) (M : Int64 → Int64 → Prop) : Prop :=
  ∃ (pr : Addr) (pa : Nat → Addr) (FF : Nat → List Addr) (KK VV : Nat → Nat → Int64) (TT : Nat → Int32) (hzv szv : Int32) (zvv : Int64) (zz : Nat), Exa Z h tb "com/example/clockwrap/clockwrap/store/LongTable" ∧ Fld Z h tb "com/example/clockwrap/clockwrap/store/LongTable" "parts" "[Lcom/example/clockwrap/clockwrap/store/LongTable$Part;" (.ref pr) ∧ Fld Z h tb "com/example/clockwrap/clockwrap/store/LongTable" "size" "I" (.int szv) ∧ Fld Z h tb "com/example/clockwrap/clockwrap/store/LongTable" "hasZero" "Z" (.int hzv) ∧ Fld Z h tb "com/example/clockwrap/clockwrap/store/LongTable" "zeroValue" "J" (.long zvv) ∧ Ara Z h pr (.object "com/example/clockwrap/clockwrap/store/LongTable$Part") 64 (fun i => .ref (pa i)) ∧ FAM Z h 64 n0 zz tb pr pa FF KK VV TT mm ∧ zz ≤ h.size ∧ tb ≠ pr ∧ n0 ≤ tb ∧
    (tb ∈ Wl ∧ pr ∈ Wl ∧ (∀ j, j < 64 → ∀ x ∈ FF j, x ∈ Wl) ∧ ∀ x ∈ Wl, n0 ≤ x ∧ x < zz) ∧ (hzv = 1 ∨ hzv = 0) ∧ (hzv = 0 → zvv = 0) ∧ (∀ k v, k ≠ 0 → (M k v ↔ In (KK (ix k)) (VV (ix k)) k v)) ∧ ∀ v, M 0 v ↔ hzv = 1 ∧ v = zvv
section TBL
variable {Z : State} {h h' : Heap} {n0 : Nat} {tb : Addr} {Wl ws : List Addr} {mm : Nat} {M : Int64 → Int64 → Prop}
theorem TBL.exa (T : TBL Z h n0 tb Wl mm M) : Exa Z h tb "com/example/clockwrap/clockwrap/store/LongTable" := by obtain ⟨_, _, _, _, _, _, _, _, _, _, E, -⟩ := T; exact E
theorem TBL.lt (T : TBL Z h n0 tb Wl mm M) : ∀ x ∈ Wl, n0 ≤ x ∧ x < h.size := by
  obtain ⟨_, _, _, _, _, _, _, _, _, zz, -, -, -, -, -, -, -, hzl, -, -, ⟨-, -, -, w⟩, -⟩ := T
  exact fun x hx => ⟨(w x hx).1, Nat.lt_of_lt_of_le (w x hx).2 hzl⟩
theorem TBL.keep (T : TBL Z h n0 tb Wl mm M) (K : Keep h h' ws) (q : ∀ x ∈ ws, x ∉ Wl) : TBL Z h' n0 tb Wl mm M := by
  obtain ⟨pr, pa, FF, KK, VV, TT, hzv, szv, zvv, zz, E, Fp, Fs, Fh, Fz, Vp, H, hzl, nop, geo, ⟨wtb, wpr, wF, wW⟩, r⟩ := T
  have a : tb ∉ ws := fun z => q _ z wtb
  have b : pr ∉ ws := fun z => q _ z wpr
  exact ⟨pr, pa, FF, KK, VV, TT, hzv, szv, zvv, zz, E.keep K, Fp.keep K a, Fs.keep K a, Fh.keep K a, Fz.keep K a, Vp.keep K b, ⟨fun i hi => ⟨(H.1 i hi).1.keep K (fun x hx z => q x z (wF i hi x hx)), (H.1 i hi).2⟩, H.2⟩, Nat.le_trans hzl K.1, nop, geo, ⟨wtb, wpr, wF, wW⟩, r⟩
theorem own_tbl0 {pr : Addr} {pa : Nat → Addr} {FF : Nat → List Addr} (E : Exa Z h tb "com/example/clockwrap/clockwrap/store/LongTable") (Fp : Fld Z h tb "com/example/clockwrap/clockwrap/store/LongTable" "parts" "[Lcom/example/clockwrap/clockwrap/store/LongTable$Part;" (.ref pr)) (Fs : Fld Z h tb "com/example/clockwrap/clockwrap/store/LongTable" "size" "I" (.int (0 : Int32))) (Fh : Fld Z h tb "com/example/clockwrap/clockwrap/store/LongTable" "hasZero" "Z" (.int (0 : Int32))) (Fz : Fld Z h tb "com/example/clockwrap/clockwrap/store/LongTable" "zeroValue" "J" (.long (0 : Int64))) (Vp : Ara Z h pr (.object "com/example/clockwrap/clockwrap/store/LongTable$Part") 64 (fun i => if i < 64 then .ref (pa i) else .null)) (H : FAM Z h 64 n0 h.size tb pr pa FF (fun _ _ => 0) (fun _ _ => 0) (fun _ => 0) 0) (nop : tb ≠ pr) (geo : n0 ≤ tb) (gep : n0 ≤ pr) : TBL Z h n0 tb (tb :: pr :: (List.range 64).flatMap FF) 0 eM := by
  refine ⟨pr, pa, FF, fun _ _ => 0, fun _ _ => 0, fun _ => 0, 0, 0, 0, h.size, E, Fp, Fs, Fh, Fz, Vp.congr (fun i hi => if_pos hi), H, Nat.le_refl _, nop, geo, ⟨.head _, .tail _ (.head _), fun j hj x hx => .tail _ (.tail _ (List.mem_flatMap.mpr ⟨j, List.mem_range.mpr hj, hx⟩)), allS ⟨geo, E.lt⟩ (allS ⟨gep, Vp.lt⟩ (fun x hx => ?_))⟩, Or.inr rfl, fun _ => rfl, fun k v hk => ⟨fun q => False.elim q, fun ⟨s, _, e, _⟩ => hk e.symm⟩, fun v => ⟨fun q => False.elim q, fun q => absurd q.1 (by decide)⟩⟩
  obtain ⟨j, hj, hx⟩ := List.mem_flatMap.mp hx
  have a := (H.1 j (List.mem_range.mp hj)).2.2 x hx
  exact ⟨a.1, a.2.1⟩
theorem own_rel {KK VV : Nat → Nat → Int64} {kf' vf' : Nat → Int64} {key : Int64} {R : (Int64 → Int64 → Prop) → Int64 → Int64 → Prop} (hM : ∀ k v, k ≠ 0 → (M k v ↔ In (KK (ix k)) (VV (ix k)) k v)) (hk : key ≠ 0) (hl : Lcl key R) (hr : ∀ kk vv, kk ≠ 0 → (In kf' vf' kk vv ↔ R (In (KK (ix key)) (VV (ix key))) kk vv)) :
    ∀ k v, k ≠ 0 → (R M k v ↔ In (upd KK (ix key) kf' (ix k)) (upd VV (ix key) vf' (ix k)) k v) := fun k v h0 => by
  by_cases q : ix k = ix key
  · rw [q, upd_hit, upd_hit, hr k v h0]
    exact hl.1 _ _ k v (fun w => hM key w hk) (fun w => by rw [hM k w h0, q])
  · rw [upd_miss q, upd_miss q, hl.2 M k v (fun r => q (by rw [r]))]
    exact hM k v h0
variable {key val zvv : Int64} {hzv : Int32}
theorem own_add0 (h : key = 0) (h01 : hzv = 1 ∨ hzv = 0) (hz0 : hzv = 0 → zvv = 0) (hM0 : ∀ v, M 0 v ↔ hzv = 1 ∧ v = zvv) : ∀ v, addM key M 0 v ↔ (1 : Int32) = 1 ∧ v = zvv := fun v => by
  subst h
  unfold addM
  rw [if_pos rfl]
  rcases h01 with q | q
  · exact ⟨fun z => z.elim (fun y => absurd ((hM0 zvv).mpr ⟨q, rfl⟩) (y.2 zvv)) (fun y => ⟨rfl, ((hM0 v).mp y).2⟩), fun z => Or.inr ((hM0 v).mpr ⟨q, z.2⟩)⟩
  · have no : ∀ w, ¬ M 0 w := fun w y => absurd (q.symm.trans ((hM0 w).mp y).1) (by decide)
    exact ⟨fun z => z.elim (fun y => ⟨rfl, y.1.trans (hz0 q).symm⟩) (fun y => absurd y (no v)), fun z => Or.inl ⟨z.2.trans (hz0 q), no⟩⟩
theorem own_rem0 (h : key = 0) : ∀ v, remM key M 0 v ↔ (0 : Int32) = 1 ∧ v = (0 : Int64) := fun v => ⟨fun z => absurd h.symm z.1, fun z => absurd z.1 (by decide)⟩
theorem own_put0 (h : key = 0) : ∀ v, putM key val M 0 v ↔ (1 : Int32) = 1 ∧ v = val := fun v => by
  unfold putM; rw [if_pos h.symm]; exact ⟨fun z => ⟨rfl, z⟩, fun z => z.2⟩
end TBL
theorem ef_rm1 (m : MethodId) (o0 : Addr) : entryFrame m #[(.ref o0)] 2 = mkF m 0 #[.val (.ref o0), .unset] [] := by first | (simp [entryFrame, mkF, argsToLocals, Value.category]; done) | rfl
theorem pn_2 : plainName "com/example/clockwrap/clockwrap/store/LongTable" = true := by first | (simp [plainName, overriddenIn]; done) | decide +kernel
def Q_rm1 (Z : State) (o0 : Addr)  (h0 : Heap) (n0 : Nat) (v : Option Value) (h : Heap) (L : List Loc) : Prop := ∃ Wl : List Addr, v = none ∧ Fr n0 L ∧ Keep h0 h [o0] ∧ TBL Z h n0 o0 Wl 0 eM
theorem d1_0 : decode prog_32_method_1_code 0 = .ok (.aload_n 0, 1) := by decide +kernel
theorem d1_1 : decode prog_32_method_1_code 1 = .ok (.invokespecial 3, 3) := by decide +kernel
theorem d1_4 : decode prog_32_method_1_code 4 = .ok (.aload_n 0, 1) := by decide +kernel
theorem d1_5 : decode prog_32_method_1_code 5 = .ok (.bipush 64, 2) := by decide +kernel
theorem d1_7 : decode prog_32_method_1_code 7 = .ok (.anewarray 9, 3) := by decide +kernel
theorem d1_10 : decode prog_32_method_1_code 10 = .ok (.putfield 11, 3) := by decide +kernel
theorem d1_13 : decode prog_32_method_1_code 13 = .ok (.iconst 0, 1) := by decide +kernel
theorem d1_14 : decode prog_32_method_1_code 14 = .ok (.istore_n 1, 1) := by decide +kernel
theorem d1_15 : decode prog_32_method_1_code 15 = .ok (.iload_n 1, 1) := by decide +kernel
theorem d1_16 : decode prog_32_method_1_code 16 = .ok (.bipush 64, 2) := by decide +kernel
theorem d1_18 : decode prog_32_method_1_code 18 = .ok (.if_icmp .ge 22, 3) := by decide +kernel
theorem d1_40 : decode prog_32_method_1_code 40 = .ok (.return_, 1) := by decide +kernel
theorem d1_21 : decode prog_32_method_1_code 21 = .ok (.aload_n 0, 1) := by decide +kernel
theorem d1_22 : decode prog_32_method_1_code 22 = .ok (.getfield 11, 3) := by decide +kernel
theorem d1_25 : decode prog_32_method_1_code 25 = .ok (.iload_n 1, 1) := by decide +kernel
theorem d1_26 : decode prog_32_method_1_code 26 = .ok (.new 9, 3) := by decide +kernel
theorem d1_29 : decode prog_32_method_1_code 29 = .ok (.dup, 1) := by decide +kernel
theorem pd_4 : parseMethodDescriptor "()V" = some ⟨[], none⟩ := by decide +kernel
theorem d1_30 : decode prog_32_method_1_code 30 = .ok (.invokespecial 15, 3) := by decide +kernel
theorem d1_33 : decode prog_32_method_1_code 33 = .ok (.aastore, 1) := by decide +kernel
theorem d1_34 : decode prog_32_method_1_code 34 = .ok (.iinc 1 1, 3) := by decide +kernel
theorem d1_37 : decode prog_32_method_1_code 37 = .ok (.goto (-22), 3) := by decide +kernel
set_option maxRecDepth 65536 in
set_option maxHeartbeats 40000000 in
theorem rm1 (l : Launch) (Z : State) (a0 : Array Value) (hw : ∀ d ∈ tables_1, d.before a0 Z = true) (ws : List Jvm.Cond) (o0 : Addr)  (h0 : Heap) (n0 : Nat) (Z0 : n0 ≤ h0.size) (geo : n0 ≤ o0) (E0 : Exa Z h0 o0 "com/example/clockwrap/clockwrap/store/LongTable") (F_parts : Fld Z h0 o0 "com/example/clockwrap/clockwrap/store/LongTable" "parts" "[Lcom/example/clockwrap/clockwrap/store/LongTable$Part;" .null) (F_size : Fld Z h0 o0 "com/example/clockwrap/clockwrap/store/LongTable" "size" "I" (.int (0 : Int32))) (F_hasZero : Fld Z h0 o0 "com/example/clockwrap/clockwrap/store/LongTable" "hasZero" "Z" (.int (0 : Int32))) (F_zeroValue : Fld Z h0 o0 "com/example/clockwrap/clockwrap/store/LongTable" "zeroValue" "J" (.long (0 : Int64))) :
    MetFree l (⟨"com/example/clockwrap/clockwrap/store/LongTable", "<init>", "()V"⟩ : MethodName) (head1 (Jvm.Cond.code (⟨"com/example/clockwrap/clockwrap/store/LongTable", "<init>", "()V"⟩ : MethodName) prog_32_method_1_code 2 none :: ws) ({ frames := 2, cells := 129, slots := 1344, locals := 60 } : Room)) (fun a U => a = #[(.ref o0)] ∧ Z.Warmed39 U.vm ∧ U.heap = h0) (fun _ _ _ _ _ => True) (fun _ U o U' => ∃ v L, o = .returned v ∧ (Q_rm1 Z o0 h0 n0) v U'.heap L ∧ FrameEnd U o U' L ({ frames := 2, cells := 129, slots := 1344, locals := 60 } : Room).cells ({ frames := 2, cells := 129, slots := 1344, locals := 60 } : Room).slots) := by
  refine MetFree.of_bodySF (plainFor_of_name pn_2) hisR ?_
  intro p e s m args below meth c s₁ Bd hml0 hP hK
  obtain ⟨rfl, hZ, hh⟩ := hP
  have hx := Bd.exec
  have hby := Bd.bytes
  have hml : c.maxLocals = 2 := hml0
  have hown : s.vm.findClass "com/example/clockwrap/clockwrap/store/LongTable" = some m.cls := findClass_of_methodNamed Bd.named
  have hnm := (name_of_methodNamed Bd.named Bd.method).1
  have X0 : Stand p l e ({ frames := 2, cells := 129, slots := 1344, locals := 60 } : Room) s m #[(.ref o0)] below meth c s₁ [] 0 0 := Stand.of_body Bd
  have e0 : s₁.heap = h0 := by rw [← hh, Bd.state]; rfl
  have N0 := Fr.nil n0
  show OFin p e below (ORet (Q_rm1 Z o0 h0 n0) s ({ frames := 2, cells := 129, slots := 1344, locals := 60 } : Room).cells ({ frames := 2, cells := 129, slots := 1344, locals := 60 } : Room).slots) (s₁.setTop (entryFrame m #[(.ref o0)] 2))
  refine OFin.go (fun t k => castTop (ef_rm1 m o0) k) ?_
  have K0 := Keep.refl h0 [o0]
  show OFin p e below (ORet (Q_rm1 Z o0 h0 n0) s ({ frames := 2, cells := 129, slots := 1344, locals := 60 } : Room).cells ({ frames := 2, cells := 129, slots := 1344, locals := 60 } : Room).slots) (s₁.setTop (mkF m 0 #[.val (.ref o0), .unset] []))
  have S1 : ∀ t, Steps p.tables e below (s₁.setTop (mkF m 1 #[.val (.ref o0), .unset] [(.ref o0)])) t → Steps p.tables e below (s₁.setTop (mkF m 0 #[.val (.ref o0), .unset] [])) t := by
    intro t k
    show Steps p.tables e below (s₁.setTop (mkF m 0 #[.val (.ref o0), .unset] [])) t
    refine XS.aloadN X0.here hx rfl (hb hby d1_0) rfl rfl ?_
    exact k
  refine OFin.go S1 ?_
  obtain ⟨T2, X2, e2, st2⟩ := initO X0 hx hZ hown (hw _ (List.mem_of_getElem? (i := 6) rfl)) (hw _ (List.mem_of_getElem? (i := 7) rfl)) (hw _ (List.mem_of_getElem? (i := 8) rfl)) e0 (g := (mkF m 1 #[.val (.ref o0), .unset] [(.ref o0)])) rfl (by rw [hml]; rfl) rfl (hb hby d1_1) (by decide) (W := 0) (by show 2 * 0 + _ ≤ _; exact Nat.le_of_eq rfl) (by decide)
  refine OFin.go st2 ?_
  show OFin p e below _ (T2.setTop (mkF m 4 #[.val (.ref o0), .unset] []))
  have S3 : ∀ t, Steps p.tables e below (T2.setTop (mkF m 7 #[.val (.ref o0), .unset] [(.int (64 : Int32)), (.ref o0)])) t → Steps p.tables e below (T2.setTop (mkF m 4 #[.val (.ref o0), .unset] [])) t := by
    intro t k
    show Steps p.tables e below (T2.setTop (mkF m 4 #[.val (.ref o0), .unset] [])) t
    refine XS.aloadN X2.here hx rfl (hb hby d1_4) rfl rfl ?_
    show Steps p.tables e below (T2.setTop (mkF m 5 #[.val (.ref o0), .unset] [(.ref o0)])) t
    refine XS.bipush X2.here hx rfl (hb hby d1_5) ?_
    exact k
  refine OFin.go S3 ?_
  obtain ⟨T4, h4, k4, X4, e4, E4, A4, O4v, st4⟩ := newR X2 hx hZ hown (hw _ (List.mem_of_getElem? (i := 9) rfl)) (hw _ (List.mem_of_getElem? (i := 10) rfl)) e2 (g := (mkF m 7 #[.val (.ref o0), .unset] [(.int (64 : Int32)), (.ref o0)])) rfl (hb hby d1_7) rfl (by decide) (cap := 64) (by decide) (by decide) (Nat.le_of_ble_eq_true rfl) (Nat.le_of_ble_eq_true rfl)
  obtain ⟨b4, g4⟩ : ∃ z, z = h0.size := ⟨_, rfl⟩
  rw [← g4] at A4 st4
  have q5 : o0 ≠ b4 := up_lt E0.lt g4
  have ge4 : n0 ≤ b4 := Nat.le_trans Z0 (Nat.le_of_eq g4.symm)
  have Z4 : n0 ≤ h4.size := Nat.le_trans Z0 E4.1
  have sz4 : h0.size ≤ b4 := Nat.le_trans K0.1 (Nat.le_of_eq g4.symm)
  have K4 := Keep.ext K0 E4
  have V4 : Ara Z h4 b4 (.object "com/example/clockwrap/clockwrap/store/LongTable$Part") 64 (fun _ => .null) := Ara.new A4 rfl
  have Ow4 : OvA Z h4 b4 "com/example/clockwrap/clockwrap/store/LongTable$Part" := ⟨_, A4.1, O4v⟩
  refine OFin.go st4 ?_
  show OFin p e below _ (T4.setTop (mkF m 10 #[.val (.ref o0), .unset] [(.ref b4), (.ref o0)]))
  have F6 := F_parts.ext E4
  have F7 := E0.ext E4
  obtain ⟨T8, h8, X8, e8, W8, st8⟩ := putF X4 hx hZ hown (host := "") (Or.inl (hw _ (List.mem_of_getElem? (i := 11) rfl))) Via.refl e4 F6 F7 (Or.inr ⟨(hw _ (List.mem_of_getElem? (i := 12) rfl)), rfl, hnm⟩) (hw _ (List.mem_of_getElem? (i := 1) rfl)) (ty := (.array (.object "com/example/clockwrap/clockwrap/store/LongTable$Part"))) (by decide) rfl rfl (g := (mkF m 10 #[.val (.ref o0), .unset] [(.ref b4), (.ref o0)])) rfl rfl (hb hby d1_10)
  have Fw8 := F6.same W8
  have N8 := Fr.snoc X8 N0 geo
  have Z8 : n0 ≤ h8.size := Nat.le_trans Z4 (wr_le W8)
  have K8 := Keep.wr K4 W8 (Or.inl (List.mem_of_getElem? (i := 0) rfl))
  refine OFin.go st8 ?_
  show OFin p e below _ (T8.setTop (mkF m 13 #[.val (.ref o0), .unset] []))
  have S9 : ∀ t, Steps p.tables e below (T8.setTop (mkF m 15 #[.val (.ref o0), .val (.int (0 : Int32))] [])) t → Steps p.tables e below (T8.setTop (mkF m 13 #[.val (.ref o0), .unset] [])) t := by
    intro t k
    show Steps p.tables e below (T8.setTop (mkF m 13 #[.val (.ref o0), .unset] [])) t
    refine XS.iconst X8.here hx rfl (hb hby d1_13) ?_
    show Steps p.tables e below (T8.setTop (mkF m 14 #[.val (.ref o0), .unset] [(.int (0 : Int32))])) t
    refine XS.istoreN X8.here hx rfl (hb hby d1_14) rfl (l' := #[.val (.ref o0), .val (.int (0 : Int32))]) rfl ?_
    exact k
  refine OFin.go S9 ?_
  have LOOP10 : ∀ (k : Nat) (Tk : State) (lo_ : List Loc) (ce_ sl_ : Nat) (Xk : Stand p l e ({ frames := 2, cells := 129, slots := 1344, locals := 60 } : Room) s m #[(.ref o0)] below meth c Tk lo_ ce_ sl_) (Hk : Heap) (ek : Tk.heap = Hk) (Nk : Fr n0 lo_) (hce_ : ce_ + 2 * k ≤ 129 ∧ sl_ + 20 * k ≤ 1344) (Zk : n0 ≤ Hk.size) (Kk : Keep h0 Hk [o0]) (ii : Int32) (nn : Nat) (pa : Nat → Addr) (FF : Nat → List Addr) (Ek : Exa Z Hk o0 "com/example/clockwrap/clockwrap/store/LongTable") (Fpartsk : Fld Z Hk o0 "com/example/clockwrap/clockwrap/store/LongTable" "parts" "[Lcom/example/clockwrap/clockwrap/store/LongTable$Part;" (.ref b4)) (Fsizek : Fld Z Hk o0 "com/example/clockwrap/clockwrap/store/LongTable" "size" "I" (.int (0 : Int32))) (FhasZerok : Fld Z Hk o0 "com/example/clockwrap/clockwrap/store/LongTable" "hasZero" "Z" (.int (0 : Int32))) (FzeroValuek : Fld Z Hk o0 "com/example/clockwrap/clockwrap/store/LongTable" "zeroValue" "J" (.long (0 : Int64))) (Vk : Ara Z Hk b4 (.object "com/example/clockwrap/clockwrap/store/LongTable$Part") 64 (fun i => if i < nn then .ref (pa i) else .null)) (Ok : OvA Z Hk b4 "com/example/clockwrap/clockwrap/store/LongTable$Part") (Mk : FAM Z Hk nn n0 Hk.size o0 b4 pa FF (fun _ _ => 0) (fun _ _ => 0) (fun _ => 0) 0), (nn + k = 64 ∧ ii.toInt = nn) → OFin p e below (ORet (Q_rm1 Z o0 h0 n0) s ({ frames := 2, cells := 129, slots := 1344, locals := 60 } : Room).cells ({ frames := 2, cells := 129, slots := 1344, locals := 60 } : Room).slots) (Tk.setTop (mkF m 15 #[.val (.ref o0), .val (.int ii)] [])) := by
    intro k
    induction k with
    | zero =>
      intro Tk lo_ ce_ sl_ Xk Hk ek Nk hce_ Zk Kk ii nn pa FF Ek Fpartsk Fsizek FhasZerok FzeroValuek Vk Ok Mk hinv
      obtain ⟨hn1, hn2⟩ := hinv
      obtain rfl : nn = 64 := by omega
      have S11 : ∀ t, Steps p.tables e below (Tk.setTop (mkF m 18 #[.val (.ref o0), .val (.int ii)] [(.int (64 : Int32)), (.int ii)])) t → Steps p.tables e below (Tk.setTop (mkF m 15 #[.val (.ref o0), .val (.int ii)] [])) t := by
        intro t k
        show Steps p.tables e below (Tk.setTop (mkF m 15 #[.val (.ref o0), .val (.int ii)] [])) t
        refine XS.iloadN Xk.here hx rfl (hb hby d1_15) rfl ?_
        show Steps p.tables e below (Tk.setTop (mkF m 16 #[.val (.ref o0), .val (.int ii)] [(.int ii)])) t
        refine XS.bipush Xk.here hx rfl (hb hby d1_16) ?_
        exact k
      refine OFin.go S11 ?_
      have S12 : ∀ t, Steps p.tables e below (Tk.setTop (mkF m 40 #[.val (.ref o0), .val (.int ii)] [])) t → Steps p.tables e below (Tk.setTop (mkF m 18 #[.val (.ref o0), .val (.int ii)] [(.int (64 : Int32)), (.int ii)])) t := by
        intro t k
        show Steps p.tables e below (Tk.setTop (mkF m 18 #[.val (.ref o0), .val (.int ii)] [(.int (64 : Int32)), (.int ii)])) t
        refine XS.icmpYes Xk.here hx rfl (pc0 := 18) (pc' := 40) rfl (hb hby d1_18) rfl (flt (by rw [Int32.lt_iff_toInt_lt]; simp only [Int32.reduceToInt]; omega)).2.1 (by decide) (by decide) ?_
        exact k
      refine OFin.go S12 ?_
      exact finV Xk hx Bd.notSynchronized Bd.returns (hb hby d1_40) (by show ce_ ≤ 129; omega) (by show sl_ ≤ 1344; omega) (by rw [ek]; exact ⟨_, rfl, Nk, Kk, own_tbl0 Ek Fpartsk Fsizek FhasZerok FzeroValuek Vk Mk q5 geo ge4⟩)
    | succ k ih =>
      intro Tk lo_ ce_ sl_ Xk Hk ek Nk hce_ Zk Kk ii nn pa FF Ek Fpartsk Fsizek FhasZerok FzeroValuek Vk Ok Mk hinv
      obtain ⟨hn1, hn2⟩ := hinv
      have S13 : ∀ t, Steps p.tables e below (Tk.setTop (mkF m 18 #[.val (.ref o0), .val (.int ii)] [(.int (64 : Int32)), (.int ii)])) t → Steps p.tables e below (Tk.setTop (mkF m 15 #[.val (.ref o0), .val (.int ii)] [])) t := by
        intro t k
        show Steps p.tables e below (Tk.setTop (mkF m 15 #[.val (.ref o0), .val (.int ii)] [])) t
        refine XS.iloadN Xk.here hx rfl (hb hby d1_15) rfl ?_
        show Steps p.tables e below (Tk.setTop (mkF m 16 #[.val (.ref o0), .val (.int ii)] [(.int ii)])) t
        refine XS.bipush Xk.here hx rfl (hb hby d1_16) ?_
        exact k
      refine OFin.go S13 ?_
      have S14 : ∀ t, Steps p.tables e below (Tk.setTop (mkF m 21 #[.val (.ref o0), .val (.int ii)] [])) t → Steps p.tables e below (Tk.setTop (mkF m 18 #[.val (.ref o0), .val (.int ii)] [(.int (64 : Int32)), (.int ii)])) t := by
        intro t k
        show Steps p.tables e below (Tk.setTop (mkF m 18 #[.val (.ref o0), .val (.int ii)] [(.int (64 : Int32)), (.int ii)])) t
        refine XS.icmpNo Xk.here hx rfl (hb hby d1_18) rfl (tlt (by rw [Int32.lt_iff_toInt_lt]; simp only [Int32.reduceToInt]; omega)).2.1 ?_
        exact k
      refine OFin.go S14 ?_
      have S15 : ∀ t, Steps p.tables e below (Tk.setTop (mkF m 22 #[.val (.ref o0), .val (.int ii)] [(.ref o0)])) t → Steps p.tables e below (Tk.setTop (mkF m 21 #[.val (.ref o0), .val (.int ii)] [])) t := by
        intro t k
        show Steps p.tables e below (Tk.setTop (mkF m 21 #[.val (.ref o0), .val (.int ii)] [])) t
        refine XS.aloadN Xk.here hx rfl (hb hby d1_21) rfl rfl ?_
        exact k
      refine OFin.go S15 ?_
      obtain ⟨T16, X16, e16, st16⟩ := getF Xk hx hZ hown (host := "") (Or.inl (hw _ (List.mem_of_getElem? (i := 11) rfl))) Via.refl ek Fpartsk (g := (mkF m 22 #[.val (.ref o0), .val (.int ii)] [(.ref o0)])) rfl rfl (hb hby d1_22)
      refine OFin.go st16 ?_
      show OFin p e below _ (T16.setTop (mkF m 25 #[.val (.ref o0), .val (.int ii)] [(.ref b4)]))
      have S17 : ∀ t, Steps p.tables e below (T16.setTop (mkF m 26 #[.val (.ref o0), .val (.int ii)] [(.int ii), (.ref b4)])) t → Steps p.tables e below (T16.setTop (mkF m 25 #[.val (.ref o0), .val (.int ii)] [(.ref b4)])) t := by
        intro t k
        show Steps p.tables e below (T16.setTop (mkF m 25 #[.val (.ref o0), .val (.int ii)] [(.ref b4)])) t
        refine XS.iloadN X16.here hx rfl (hb hby d1_25) rfl ?_
        exact k
      refine OFin.go S17 ?_
      obtain ⟨T18, h18, X18, e18, E18, A18, D18, -, st18⟩ := newO X16 hx hZ hown (hw _ (List.mem_of_getElem? (i := 9) rfl)) (hw _ (List.mem_of_getElem? (i := 13) rfl)) (hw _ (List.mem_of_getElem? (i := 14) rfl)) e16 (g := (mkF m 26 #[.val (.ref o0), .val (.int ii)] [(.int ii), (.ref b4)])) rfl (hb hby d1_26) (by show ce_ + 1 ≤ 129; omega) (by show sl_ + 4 ≤ 1344; omega)
      obtain ⟨b18, g18⟩ : ∃ z, z = Hk.size := ⟨_, rfl⟩
      rw [← g18] at A18 D18 st18
      have q19 : o0 ≠ b18 := up_lt Ek.lt g18
      have q20 : b4 ≠ b18 := up_lt Vk.lt g18
      have ge18 : n0 ≤ b18 := Nat.le_trans Zk (Nat.le_of_eq g18.symm)
      have Z18 : n0 ≤ h18.size := Nat.le_trans Zk E18.1
      have sz18 : h0.size ≤ b18 := Nat.le_trans Kk.1 (Nat.le_of_eq g18.symm)
      have K18 := Keep.ext Kk E18
      have F18_keys : Fld Z h18 b18 "com/example/clockwrap/clockwrap/store/LongTable$Part" "keys" "[J" .null := D18 (Or.inl (hw _ (List.mem_of_getElem? (i := 21) rfl))) (ty := (.array .long)) (by decide)
      have F18_shift : Fld Z h18 b18 "com/example/clockwrap/clockwrap/store/LongTable$Part" "shift" "I" (.int (0 : Int32)) := D18 (Or.inl (hw _ (List.mem_of_getElem? (i := 28) rfl))) (ty := .int) (by decide)
      have F18_values : Fld Z h18 b18 "com/example/clockwrap/clockwrap/store/LongTable$Part" "values" "[J" .null := D18 (Or.inl (hw _ (List.mem_of_getElem? (i := 77) rfl))) (ty := (.array .long)) (by decide)
      have F18_taken : Fld Z h18 b18 "com/example/clockwrap/clockwrap/store/LongTable$Part" "taken" "I" (.int (0 : Int32)) := D18 (Or.inl (hw _ (List.mem_of_getElem? (i := 79) rfl))) (ty := .int) (by decide)
      refine OFin.go st18 ?_
      show OFin p e below _ (T18.setTop (mkF m 29 #[.val (.ref o0), .val (.int ii)] [(.ref b18), (.int ii), (.ref b4)]))
      have S21 : ∀ t, Steps p.tables e below (T18.setTop (mkF m 30 #[.val (.ref o0), .val (.int ii)] [(.ref b18), (.ref b18), (.int ii), (.ref b4)])) t → Steps p.tables e below (T18.setTop (mkF m 29 #[.val (.ref o0), .val (.int ii)] [(.ref b18), (.int ii), (.ref b4)])) t := by
        intro t k
        show Steps p.tables e below (T18.setTop (mkF m 29 #[.val (.ref o0), .val (.int ii)] [(.ref b18), (.int ii), (.ref b4)])) t
        refine XS.dup X18.here hx rfl (hb hby d1_29) rfl rfl ?_
        exact k
      refine OFin.go S21 ?_
      obtain ⟨_, T22, Lc22, X22, hQ22, st22⟩ := specRefQ X18 hx hZ (y := (⟨"com/example/clockwrap/clockwrap/store/LongTable$Part", "<init>", "()V"⟩ : MethodName)) rfl hown (hw _ (List.mem_of_getElem? (i := 15) rfl)) (hw _ (List.mem_of_getElem? (i := 16) rfl)) (hw _ (List.mem_of_getElem? (i := 14) rfl)) (hw _ (List.mem_of_getElem? (i := 17) rfl)) (by decide) (a := b18) (argsL := []) (rest := [(.ref b18), (.int ii), (.ref b4)]) (rm3 l Z a0 hw [] b18 h18 n0 Z18 ge18 A18 F18_keys F18_shift F18_values F18_taken) (W := 3) (by decide) (by decide) e18 (g := (mkF m 30 #[.val (.ref o0), .val (.int ii)] [(.ref b18), (.ref b18), (.int ii), (.ref b4)])) rfl (by rw [hml]; rfl) (lenOf pd_4 rfl) rfl (by show 2 * 0 + _ ≤ _; exact Nat.le_of_eq rfl) (hb hby d1_30) (by show ce_ + 1 + 1 ≤ 129; omega) (by show sl_ + 4 + 16 ≤ 1344; omega)
      obtain ⟨ka22, rfl, N22q, K22q, hka22, F22_keys, F22_shift, F22_values, F22_taken, Va22⟩ := hQ22
      have F23 := Ek.ext E18
      have q24 : o0 ≠ ka22 := Nat.ne_of_lt (Nat.lt_of_lt_of_le F23.lt hka22)
      have F25 := Vk.ext E18
      have q26 : b4 ≠ ka22 := Nat.ne_of_lt (Nat.lt_of_lt_of_le F25.lt hka22)
      have q27 : b18 ≠ ka22 := Nat.ne_of_lt (Nat.lt_of_lt_of_le A18.lt hka22)
      have ge22 : n0 ≤ ka22 := Nat.le_trans Z18 hka22
      have sz22 : h0.size ≤ ka22 := Nat.le_trans K18.1 hka22
      have Z22 : n0 ≤ T22.heap.size := Nat.le_trans Z18 K22q.1
      have K22 := Keep.trans K18 K22q (allS (Or.inr sz18) all0)
      have N22 := Fr.app Nk N22q
      refine OFin.go st22 ?_
      show OFin p e below _ (T22.setTop (mkF m 33 #[.val (.ref o0), .val (.int ii)] [(.ref b18), (.int ii), (.ref b4)]))
      have F28 := F25.keep K22q (ninS q20 nin0)
      have F29 := Ok.ext E18
      have F30 := F29.keep K22q
      have F31 := A18.keep K22q
      obtain ⟨T32, h32, X32, e32, W32, st32⟩ := wrR X22 hx hZ rfl F28 F30 (Ins.self F31) (i := nn) (own_ixn hn2).1 (own_ixn hn2).2 (by omega) (g := (mkF m 33 #[.val (.ref o0), .val (.int ii)] [(.ref b18), (.int ii), (.ref b4)])) rfl rfl (hb hby d1_33)
      have V32 := F28.set W32
      have N32 := Fr.snoc X32 N22 ge4
      have Z32 : n0 ≤ h32.size := Nat.le_trans Z22 (wr_le W32)
      have K32 := Keep.wr K22 W32 (Or.inr sz4)
      refine OFin.go st32 ?_
      show OFin p e below _ (T32.setTop (mkF m 34 #[.val (.ref o0), .val (.int ii)] []))
      have S33 : ∀ t, Steps p.tables e below (T32.setTop (mkF m 15 #[.val (.ref o0), .val (.int (ii + (1 : Int32)))] [])) t → Steps p.tables e below (T32.setTop (mkF m 34 #[.val (.ref o0), .val (.int ii)] [])) t := by
        intro t k
        show Steps p.tables e below (T32.setTop (mkF m 34 #[.val (.ref o0), .val (.int ii)] [])) t
        refine XS.iinc X32.here hx rfl (hb hby d1_34) rfl (l' := #[.val (.ref o0), .val (.int (ii + (1 : Int32)))]) rfl ?_
        show Steps p.tables e below (T32.setTop (mkF m 37 #[.val (.ref o0), .val (.int (ii + (1 : Int32)))] [])) t
        refine XS.goto X32.here hx rfl (pc0 := 37) (pc' := 15) rfl (hb hby d1_37) (by decide) (by decide) ?_
        exact k
      refine OFin.go S33 ?_
      have F34 := F23.keep K22q
      have F35 := F34.wr W32
      have F36 := Fpartsk.ext E18
      have F37 := F36.keep K22q (ninS q19 nin0)
      have F38 := F37.other W32 (Or.inl q5)
      have F39 := Fsizek.ext E18
      have F40 := F39.keep K22q (ninS q19 nin0)
      have F41 := F40.other W32 (Or.inl q5)
      have F42 := FhasZerok.ext E18
      have F43 := F42.keep K22q (ninS q19 nin0)
      have F44 := F43.other W32 (Or.inl q5)
      have F45 := FzeroValuek.ext E18
      have F46 := F45.keep K22q (ninS q19 nin0)
      have F47 := F46.other W32 (Or.inl q5)
      have F48 := F30.wr W32
      have F49 := F31.wr W32
      have F50 := F22_keys.other W32 (Or.inl (Ne.symm q20))
      have F51 := F22_values.other W32 (Or.inl (Ne.symm q20))
      have F52 := F22_shift.other W32 (Or.inl (Ne.symm q20))
      have F53 := F22_taken.other W32 (Or.inl (Ne.symm q20))
      have F54 := Va22.other W32 (Ne.symm q26)
      have F55 := FAM.keep Mk (Keep.ext (Keep.refl _ []) E18) all0
      have F56 := FAM.keep F55 K22q (allS (Or.inr (Or.inr (Nat.le_of_eq g18.symm))) all0)
      have F57 := FAM.keep F56 (Keep.of_wr W32) (allS (Or.inr (Or.inl rfl)) all0)
      have F58 := Nat.le_trans (Nat.le_refl Hk.size) E18.1
      have F59 := Nat.le_trans F58 K22q.1
      have F60 := Nat.le_trans F59 (wr_le W32)
      exact ih T32 _ _ _ X32 _ e32 N32 (by first | exact ⟨Nat.le_of_ble_eq_true rfl, Nat.le_of_ble_eq_true rfl⟩ | exact (show ce_ + 1 + 1 + 2 * k ≤ 129 ∧ sl_ + 4 + 16 + 20 * k ≤ 1344 by omega)) Z32 K32 (ii + (1 : Int32)) (nn + 1) (upd pa nn b18) (upd FF nn [b18, ka22]) F35 F38 F41 F44 F47 (V32.congr (fun i _ => own_arst nn pa b18 i)) F48 (FAM.snoc F57 (Or.inl ⟨ka22, rfl, q27, ⟨F49, F50, F51, F52, F53, F54⟩, fun _ => rfl⟩) own_pi0 (allS ⟨Nat.le_of_eq g18.symm, ge18, (Ne.symm q19), (Ne.symm q20)⟩ (allS ⟨Nat.le_trans E18.1 hka22, ge22, (Ne.symm q24), (Ne.symm q26)⟩ all0)) F60) ⟨by omega, own_inc1 hn2 (by omega)⟩
  have F61 := F7.wr W8
  have F62 := F_size.ext E4
  have F63 := F62.other W8 (Or.inr (slot_ne (Or.inl (hw _ (List.mem_of_getElem? (i := 81) rfl))) (Or.inr (hw _ (List.mem_of_getElem? (i := 12) rfl))) (by decide) (t := .int) (t' := (.array (.object "com/example/clockwrap/clockwrap/store/LongTable$Part"))) (by decide) (by decide)))
  have F64 := F_hasZero.ext E4
  have F65 := F64.other W8 (Or.inr (slot_ne (Or.inl (hw _ (List.mem_of_getElem? (i := 93) rfl))) (Or.inr (hw _ (List.mem_of_getElem? (i := 12) rfl))) (by decide) (t := .boolean) (t' := (.array (.object "com/example/clockwrap/clockwrap/store/LongTable$Part"))) (by decide) (by decide)))
  have F66 := F_zeroValue.ext E4
  have F67 := F66.other W8 (Or.inr (slot_ne (Or.inl (hw _ (List.mem_of_getElem? (i := 105) rfl))) (Or.inr (hw _ (List.mem_of_getElem? (i := 12) rfl))) (by decide) (t := .long) (t' := (.array (.object "com/example/clockwrap/clockwrap/store/LongTable$Part"))) (by decide) (by decide)))
  have F68 := V4.other W8 (Ne.symm q5)
  have F69 := Ow4.wr W8
  exact LOOP10 64 T8 _ _ _ X8 _ e8 N8 (by first | exact ⟨Nat.le_of_ble_eq_true rfl, Nat.le_of_ble_eq_true rfl⟩ | exact (show ce_ + 1 + 1 + 2 * k ≤ 129 ∧ sl_ + 4 + 16 + 20 * k ≤ 1344 by omega)) Z8 K8 (0 : Int32) 0 (fun _ => 0) (fun _ => []) F61 Fw8 F63 F65 F67 (F68.congr (fun i _ => (if_neg (Nat.not_lt_zero i)).symm)) F69 ⟨fun i hi => absurd hi (Nat.not_lt_zero i), fun i j hi => absurd hi (Nat.not_lt_zero i)⟩ ⟨rfl, rfl⟩
theorem ef_rm8 (m : MethodId) (o0 : Addr) (key : Int64) : entryFrame m #[(.ref o0), (.long key)] 3 = mkF m 0 #[.val (.ref o0), .val (.long key), .second] [] := by first | (simp [entryFrame, mkF, argsToLocals, Value.category]; done) | rfl
def Q_rm8 (Z : State) (o0 : Addr) (key : Int64) (pr : Addr) (pa : Nat → Addr) (h0 : Heap) (n0 : Nat) (v : Option Value) (h : Heap) (L : List Loc) : Prop := v = some (.ref (pa (ix key))) ∧ Fr n0 L ∧ h = h0
theorem d8_0 : decode prog_32_method_8_code 0 = .ok (.aload_n 0, 1) := by decide +kernel
theorem d8_1 : decode prog_32_method_8_code 1 = .ok (.getfield 11, 3) := by decide +kernel
theorem d8_4 : decode prog_32_method_8_code 4 = .ok (.lload_n 1, 1) := by decide +kernel
theorem d8_5 : decode prog_32_method_8_code 5 = .ok (.ldc2_w 50, 3) := by decide +kernel
theorem d8_8 : decode prog_32_method_8_code 8 = .ok (.lmul, 1) := by decide +kernel
theorem d8_9 : decode prog_32_method_8_code 9 = .ok (.bipush 58, 2) := by decide +kernel
theorem d8_11 : decode prog_32_method_8_code 11 = .ok (.lushr, 1) := by decide +kernel
theorem d8_12 : decode prog_32_method_8_code 12 = .ok (.l2i, 1) := by decide +kernel
theorem d8_13 : decode prog_32_method_8_code 13 = .ok (.aaload, 1) := by decide +kernel
theorem d8_14 : decode prog_32_method_8_code 14 = .ok (.areturn, 1) := by decide +kernel
set_option maxRecDepth 65536 in
set_option maxHeartbeats 40000000 in
theorem rm8 (l : Launch) (Z : State) (a0 : Array Value) (hw : ∀ d ∈ tables_1, d.before a0 Z = true) (ws : List Jvm.Cond) (o0 : Addr) (key : Int64) (pr : Addr) (pa : Nat → Addr) (h0 : Heap) (n0 : Nat) (Z0 : n0 ≤ h0.size) (Fp : Fld Z h0 o0 "com/example/clockwrap/clockwrap/store/LongTable" "parts" "[Lcom/example/clockwrap/clockwrap/store/LongTable$Part;" (.ref pr)) (Vp : Ara Z h0 pr (.object "com/example/clockwrap/clockwrap/store/LongTable$Part") 64 (fun i => .ref (pa i))) :
    MetFree l (⟨"com/example/clockwrap/clockwrap/store/LongTable", "part", "(J)Lcom/example/clockwrap/clockwrap/store/LongTable$Part;"⟩ : MethodName) (head1 (Jvm.Cond.code (⟨"com/example/clockwrap/clockwrap/store/LongTable", "part", "(J)Lcom/example/clockwrap/clockwrap/store/LongTable$Part;"⟩ : MethodName) prog_32_method_8_code 3 (some (.object "com/example/clockwrap/clockwrap/store/LongTable$Part")) :: ws) ({ frames := 0, cells := 0, slots := 0, locals := 0 } : Room)) (fun a U => a = #[(.ref o0), (.long key)] ∧ Z.Warmed39 U.vm ∧ U.heap = h0) (fun _ _ _ _ _ => True) (fun _ U o U' => ∃ v L, o = .returned v ∧ (Q_rm8 Z o0 key pr pa h0 n0) v U'.heap L ∧ FrameEnd U o U' L ({ frames := 0, cells := 0, slots := 0, locals := 0 } : Room).cells ({ frames := 0, cells := 0, slots := 0, locals := 0 } : Room).slots) := by
  refine MetFree.of_bodySF (plainFor_of_name pn_2) hisR ?_
  intro p e s m args below meth c s₁ Bd hml0 hP hK
  obtain ⟨rfl, hZ, hh⟩ := hP
  have hx := Bd.exec
  have hby := Bd.bytes
  have hml : c.maxLocals = 3 := hml0
  have hown : s.vm.findClass "com/example/clockwrap/clockwrap/store/LongTable" = some m.cls := findClass_of_methodNamed Bd.named
  have hnm := (name_of_methodNamed Bd.named Bd.method).1
  have X0 : Stand p l e ({ frames := 0, cells := 0, slots := 0, locals := 0 } : Room) s m #[(.ref o0), (.long key)] below meth c s₁ [] 0 0 := Stand.of_body Bd
  have e0 : s₁.heap = h0 := by rw [← hh, Bd.state]; rfl
  have N0 := Fr.nil n0
  show OFin p e below (ORet (Q_rm8 Z o0 key pr pa h0 n0) s ({ frames := 0, cells := 0, slots := 0, locals := 0 } : Room).cells ({ frames := 0, cells := 0, slots := 0, locals := 0 } : Room).slots) (s₁.setTop (entryFrame m #[(.ref o0), (.long key)] 3))
  refine OFin.go (fun t k => castTop (ef_rm8 m o0 key) k) ?_
  show OFin p e below (ORet (Q_rm8 Z o0 key pr pa h0 n0) s ({ frames := 0, cells := 0, slots := 0, locals := 0 } : Room).cells ({ frames := 0, cells := 0, slots := 0, locals := 0 } : Room).slots) (s₁.setTop (mkF m 0 #[.val (.ref o0), .val (.long key), .second] []))
  have S1 : ∀ t, Steps p.tables e below (s₁.setTop (mkF m 1 #[.val (.ref o0), .val (.long key), .second] [(.ref o0)])) t → Steps p.tables e below (s₁.setTop (mkF m 0 #[.val (.ref o0), .val (.long key), .second] [])) t := by
    intro t k
    show Steps p.tables e below (s₁.setTop (mkF m 0 #[.val (.ref o0), .val (.long key), .second] [])) t
    refine XS.aloadN X0.here hx rfl (hb hby d8_0) rfl rfl ?_
    exact k
  refine OFin.go S1 ?_
  obtain ⟨T2, X2, e2, st2⟩ := getF X0 hx hZ hown (host := "") (Or.inl (hw _ (List.mem_of_getElem? (i := 11) rfl))) Via.refl e0 Fp (g := (mkF m 1 #[.val (.ref o0), .val (.long key), .second] [(.ref o0)])) rfl rfl (hb hby d8_1)
  refine OFin.go st2 ?_
  show OFin p e below _ (T2.setTop (mkF m 4 #[.val (.ref o0), .val (.long key), .second] [(.ref pr)]))
  have S3 : ∀ t, Steps p.tables e below (T2.setTop (mkF m 14 #[.val (.ref o0), .val (.long key), .second] [(.ref (pa (ix key)))])) t → Steps p.tables e below (T2.setTop (mkF m 4 #[.val (.ref o0), .val (.long key), .second] [(.ref pr)])) t := by
    intro t k
    show Steps p.tables e below (T2.setTop (mkF m 4 #[.val (.ref o0), .val (.long key), .second] [(.ref pr)])) t
    refine XS.lloadN X2.here hx rfl (hb hby d8_4) rfl ?_
    show Steps p.tables e below (T2.setTop (mkF m 5 #[.val (.ref o0), .val (.long key), .second] [(.long key), (.ref pr)])) t
    refine X2.ldc2Long hx hown (mvT hZ (hw _ (List.mem_of_getElem? (i := 47) rfl))) (g := (mkF m 5 #[.val (.ref o0), .val (.long key), .second] [(.long key), (.ref pr)])) rfl (hb hby d8_5) _ ?_
    show Steps p.tables e below (T2.setTop (mkF m 8 #[.val (.ref o0), .val (.long key), .second] [(.long (-7046029254386353131 : Int64)), (.long key), (.ref pr)])) t
    refine XS.lmul X2.here hx rfl (hb hby d8_8) rfl ?_
    show Steps p.tables e below (T2.setTop (mkF m 9 #[.val (.ref o0), .val (.long key), .second] [(.long (key * (-7046029254386353131 : Int64))), (.ref pr)])) t
    refine XS.bipush X2.here hx rfl (hb hby d8_9) ?_
    show Steps p.tables e below (T2.setTop (mkF m 11 #[.val (.ref o0), .val (.long key), .second] [(.int (58 : Int32)), (.long (key * (-7046029254386353131 : Int64))), (.ref pr)])) t
    refine XS.lushr X2.here hx rfl (hb hby d8_11) rfl ?_
    show Steps p.tables e below (T2.setTop (mkF m 12 #[.val (.ref o0), .val (.long key), .second] [(.long (((key * (-7046029254386353131 : Int64)).toUInt64 >>> ((58 : Int32) &&& 0x3f).toInt64.toUInt64).toInt64)), (.ref pr)])) t
    refine XS.l2i X2.here hx rfl (hb hby d8_12) rfl ?_
    show Steps p.tables e below (T2.setTop (mkF m 13 #[.val (.ref o0), .val (.long key), .second] [(.int ((((key * (-7046029254386353131 : Int64)).toUInt64 >>> ((58 : Int32) &&& 0x3f).toInt64.toUInt64).toInt64).toInt32)), (.ref pr)])) t
    refine rdR X2 hx hZ e2 Vp rfl (i := (ix key)) (ix_spec key).1 rfl (ix_lt key) (x := (.ref (pa (ix key)))) rfl (g := (mkF m 13 #[.val (.ref o0), .val (.long key), .second] [(.int ((((key * (-7046029254386353131 : Int64)).toUInt64 >>> ((58 : Int32) &&& 0x3f).toInt64.toUInt64).toInt64).toInt32)), (.ref pr)])) rfl rfl (hb hby d8_13) ?_
    exact k
  refine OFin.go S3 ?_
  exact finA X2 hx Bd.notSynchronized rfl Bd.returns rfl (hb hby d8_14) (by decide) (by decide) (⟨rfl, N0, e2⟩)
theorem ef_rm12 (m : MethodId) (o0 : Addr) (key : Int64) : entryFrame m #[(.ref o0), (.long key)] 4 = mkF m 0 #[.val (.ref o0), .val (.long key), .second, .unset] [] := by first | (simp [entryFrame, mkF, argsToLocals, Value.category]; done) | rfl
def Q_rm12 (Z : State) (o0 : Addr) (key : Int64) (Wl : List Addr) (mm : Nat) (M : Int64 → Int64 → Prop) (h0 : Heap) (n0 : Nat) (v : Option Value) (h : Heap) (L : List Loc) : Prop := ∃ (b : Int32) (Wl' : List Addr), v = some (.int b) ∧ Fr n0 L ∧ Keep h0 h Wl ∧ TBL Z h n0 o0 Wl' (mm + 1) (addM key M) ∧ ∀ x ∈ Wl', x ∈ Wl ∨ h0.size ≤ x
theorem d12_0 : decode prog_32_method_4_code 0 = .ok (.lload_n 1, 1) := by decide +kernel
theorem d12_1 : decode prog_32_method_4_code 1 = .ok (.lconst 0, 1) := by decide +kernel
theorem d12_2 : decode prog_32_method_4_code 2 = .ok (.lcmp, 1) := by decide +kernel
theorem d12_3 : decode prog_32_method_4_code 3 = .ok (.ifCond .ne 24, 3) := by decide +kernel
theorem d12_6 : decode prog_32_method_4_code 6 = .ok (.aload_n 0, 1) := by decide +kernel
theorem d12_7 : decode prog_32_method_4_code 7 = .ok (.getfield 20, 3) := by decide +kernel
theorem d12_10 : decode prog_32_method_4_code 10 = .ok (.ifCond .ne 7, 3) := by decide +kernel
theorem d12_13 : decode prog_32_method_4_code 13 = .ok (.iconst 1, 1) := by decide +kernel
theorem d12_14 : decode prog_32_method_4_code 14 = .ok (.goto 4, 3) := by decide +kernel
theorem d12_17 : decode prog_32_method_4_code 17 = .ok (.iconst 0, 1) := by decide +kernel
theorem d12_18 : decode prog_32_method_4_code 18 = .ok (.istore_n 3, 1) := by decide +kernel
theorem d12_19 : decode prog_32_method_4_code 19 = .ok (.aload_n 0, 1) := by decide +kernel
theorem d12_20 : decode prog_32_method_4_code 20 = .ok (.iconst 1, 1) := by decide +kernel
theorem d12_21 : decode prog_32_method_4_code 21 = .ok (.putfield 20, 3) := by decide +kernel
theorem d12_24 : decode prog_32_method_4_code 24 = .ok (.goto 13, 3) := by decide +kernel
theorem d12_37 : decode prog_32_method_4_code 37 = .ok (.iload_n 3, 1) := by decide +kernel
theorem d12_38 : decode prog_32_method_4_code 38 = .ok (.ifCond .eq 13, 3) := by decide +kernel
theorem d12_41 : decode prog_32_method_4_code 41 = .ok (.aload_n 0, 1) := by decide +kernel
theorem d12_42 : decode prog_32_method_4_code 42 = .ok (.dup, 1) := by decide +kernel
theorem d12_43 : decode prog_32_method_4_code 43 = .ok (.getfield 16, 3) := by decide +kernel
theorem d12_46 : decode prog_32_method_4_code 46 = .ok (.iconst 1, 1) := by decide +kernel
theorem d12_47 : decode prog_32_method_4_code 47 = .ok (.iadd, 1) := by decide +kernel
theorem d12_48 : decode prog_32_method_4_code 48 = .ok (.putfield 16, 3) := by decide +kernel
theorem d12_51 : decode prog_32_method_4_code 51 = .ok (.iload_n 3, 1) := by decide +kernel
theorem d12_52 : decode prog_32_method_4_code 52 = .ok (.ireturn, 1) := by decide +kernel
theorem d12_27 : decode prog_32_method_4_code 27 = .ok (.aload_n 0, 1) := by decide +kernel
theorem d12_28 : decode prog_32_method_4_code 28 = .ok (.lload_n 1, 1) := by decide +kernel
theorem pd_5 : parseMethodDescriptor "(J)Lcom/example/clockwrap/clockwrap/store/LongTable$Part;" = some ⟨[.long], some (.object "com/example/clockwrap/clockwrap/store/LongTable$Part")⟩ := by decide +kernel
theorem d12_29 : decode prog_32_method_4_code 29 = .ok (.invokevirtual 24, 3) := by decide +kernel
theorem d12_32 : decode prog_32_method_4_code 32 = .ok (.lload_n 1, 1) := by decide +kernel
theorem pd_6 : parseMethodDescriptor "(J)Z" = some ⟨[.long], some .boolean⟩ := by decide +kernel
theorem d12_33 : decode prog_32_method_4_code 33 = .ok (.invokevirtual 32, 3) := by decide +kernel
theorem d12_36 : decode prog_32_method_4_code 36 = .ok (.istore_n 3, 1) := by decide +kernel
set_option maxRecDepth 65536 in
set_option maxHeartbeats 40000000 in
theorem rm12 (l : Launch) (Z : State) (a0 : Array Value) (hw : ∀ d ∈ tables_1, d.before a0 Z = true) (ws : List Jvm.Cond) (o0 : Addr) (key : Int64) (Wl : List Addr) (mm : Nat) (M : Int64 → Int64 → Prop) (h0 : Heap) (n0 : Nat) (Z0 : n0 ≤ h0.size) (hT : TBL Z h0 n0 o0 Wl mm M) (hmm : mm < 10) :
    MetFree l (⟨"com/example/clockwrap/clockwrap/store/LongTable", "add", "(J)Z"⟩ : MethodName) (head1 (Jvm.Cond.code (⟨"com/example/clockwrap/clockwrap/store/LongTable", "add", "(J)Z"⟩ : MethodName) prog_32_method_4_code 4 (some .boolean) :: ws) ({ frames := 3, cells := 0, slots := 0, locals := 60 } : Room)) (fun a U => a = #[(.ref o0), (.long key)] ∧ Z.Warmed39 U.vm ∧ U.heap = h0) (fun _ _ _ _ _ => True) (fun _ U o U' => ∃ v L, o = .returned v ∧ (Q_rm12 Z o0 key Wl mm M h0 n0) v U'.heap L ∧ FrameEnd U o U' L ({ frames := 3, cells := 0, slots := 0, locals := 60 } : Room).cells ({ frames := 3, cells := 0, slots := 0, locals := 60 } : Room).slots) := by
  refine MetFree.of_bodySF (plainFor_of_name pn_2) hisR ?_
  intro p e s m args below meth c s₁ Bd hml0 hP hK
  obtain ⟨rfl, hZ, hh⟩ := hP
  have hx := Bd.exec
  have hby := Bd.bytes
  have hml : c.maxLocals = 4 := hml0
  have hown : s.vm.findClass "com/example/clockwrap/clockwrap/store/LongTable" = some m.cls := findClass_of_methodNamed Bd.named
  have hnm := (name_of_methodNamed Bd.named Bd.method).1
  have X0 : Stand p l e ({ frames := 3, cells := 0, slots := 0, locals := 60 } : Room) s m #[(.ref o0), (.long key)] below meth c s₁ [] 0 0 := Stand.of_body Bd
  have e0 : s₁.heap = h0 := by rw [← hh, Bd.state]; rfl
  have N0 := Fr.nil n0
  show OFin p e below (ORet (Q_rm12 Z o0 key Wl mm M h0 n0) s ({ frames := 3, cells := 0, slots := 0, locals := 60 } : Room).cells ({ frames := 3, cells := 0, slots := 0, locals := 60 } : Room).slots) (s₁.setTop (entryFrame m #[(.ref o0), (.long key)] 4))
  refine OFin.go (fun t k => castTop (ef_rm12 m o0 key) k) ?_
  obtain ⟨pr, pa, FF, KK, VV, TT, hzv, szv, zvv, zz, E0, Fp, Fs, Fh, Fz, Vp, hFM, hzl, nop, geo, ⟨wtb, wpr, wF, wW⟩, hz01, hz0, hM, hM0⟩ := hT
  have K0 := Keep.refl h0 Wl
  show OFin p e below (ORet (Q_rm12 Z o0 key Wl mm M h0 n0) s ({ frames := 3, cells := 0, slots := 0, locals := 60 } : Room).cells ({ frames := 3, cells := 0, slots := 0, locals := 60 } : Room).slots) (s₁.setTop (mkF m 0 #[.val (.ref o0), .val (.long key), .second, .unset] []))
  have S1 : ∀ t, Steps p.tables e below (s₁.setTop (mkF m 3 #[.val (.ref o0), .val (.long key), .second, .unset] [(.int (lcmpW key (0 : Int64)))])) t → Steps p.tables e below (s₁.setTop (mkF m 0 #[.val (.ref o0), .val (.long key), .second, .unset] [])) t := by
    intro t k
    show Steps p.tables e below (s₁.setTop (mkF m 0 #[.val (.ref o0), .val (.long key), .second, .unset] [])) t
    refine XS.lloadN X0.here hx rfl (hb hby d12_0) rfl ?_
    show Steps p.tables e below (s₁.setTop (mkF m 1 #[.val (.ref o0), .val (.long key), .second, .unset] [(.long key)])) t
    refine XS.lconst X0.here hx rfl (hb hby d12_1) ?_
    show Steps p.tables e below (s₁.setTop (mkF m 2 #[.val (.ref o0), .val (.long key), .second, .unset] [(.long (0 : Int64)), (.long key)])) t
    refine XS.lcmp X0.here hx rfl (hb hby d12_2) rfl ?_
    exact k
  refine OFin.go S1 ?_
  by_cases h2 : (key = (0 : Int64))
  · -- pc 3: (key = (0 : Int64))
    have S3 : ∀ t, Steps p.tables e below (s₁.setTop (mkF m 6 #[.val (.ref o0), .val (.long key), .second, .unset] [])) t → Steps p.tables e below (s₁.setTop (mkF m 3 #[.val (.ref o0), .val (.long key), .second, .unset] [(.int (lcmpW key (0 : Int64)))])) t := by
      intro t k
      show Steps p.tables e below (s₁.setTop (mkF m 3 #[.val (.ref o0), .val (.long key), .second, .unset] [(.int (lcmpW key (0 : Int64)))])) t
      refine XS.ifNo X0.here hx rfl (hb hby d12_3) rfl (lc_ne_f h2) ?_
      exact k
    refine OFin.go S3 ?_
    have S4 : ∀ t, Steps p.tables e below (s₁.setTop (mkF m 7 #[.val (.ref o0), .val (.long key), .second, .unset] [(.ref o0)])) t → Steps p.tables e below (s₁.setTop (mkF m 6 #[.val (.ref o0), .val (.long key), .second, .unset] [])) t := by
      intro t k
      show Steps p.tables e below (s₁.setTop (mkF m 6 #[.val (.ref o0), .val (.long key), .second, .unset] [])) t
      refine XS.aloadN X0.here hx rfl (hb hby d12_6) rfl rfl ?_
      exact k
    refine OFin.go S4 ?_
    obtain ⟨T5, X5, e5, st5⟩ := getF X0 hx hZ hown (host := "") (Or.inl (hw _ (List.mem_of_getElem? (i := 92) rfl))) Via.refl e0 Fh (g := (mkF m 7 #[.val (.ref o0), .val (.long key), .second, .unset] [(.ref o0)])) rfl rfl (hb hby d12_7)
    refine OFin.go st5 ?_
    show OFin p e below _ (T5.setTop (mkF m 10 #[.val (.ref o0), .val (.long key), .second, .unset] [(.int hzv)]))
    have J6 : ∀ t, Steps p.tables e below (T5.setTop (mkF m 18 #[.val (.ref o0), .val (.long key), .second, .unset] [(.int (bi (hzv = (0 : Int32))))])) t → Steps p.tables e below (T5.setTop (mkF m 10 #[.val (.ref o0), .val (.long key), .second, .unset] [(.int hzv)])) t := by
      intro t k
      show Steps p.tables e below (T5.setTop (mkF m 10 #[.val (.ref o0), .val (.long key), .second, .unset] [(.int hzv)])) t
      by_cases h7 : (hzv = (0 : Int32))
      · refine XS.ifNo X5.here hx rfl (hb hby d12_10) rfl ((if0 _ _).trans (teq h7).2) ?_
        show Steps p.tables e below (T5.setTop (mkF m 13 #[.val (.ref o0), .val (.long key), .second, .unset] [])) t
        refine XS.iconst X5.here hx rfl (hb hby d12_13) ?_
        show Steps p.tables e below (T5.setTop (mkF m 14 #[.val (.ref o0), .val (.long key), .second, .unset] [(.int (1 : Int32))])) t
        refine XS.goto X5.here hx rfl (pc0 := 14) (pc' := 18) rfl (hb hby d12_14) (by decide) (by decide) ?_
        show Steps p.tables e below (T5.setTop (mkF m 18 #[.val (.ref o0), .val (.long key), .second, .unset] [(.int (1 : Int32))])) t
        exact (castTop (congrArg (fun zq_ => (mkF m 18 #[.val (.ref o0), .val (.long key), .second, .unset] [(.int zq_)])) (bi_t h7).symm) k)
      · refine XS.ifYes X5.here hx rfl (pc0 := 10) (pc' := 17) rfl (hb hby d12_10) rfl ((if0 _ _).trans (feq h7).2) (by decide) (by decide) ?_
        show Steps p.tables e below (T5.setTop (mkF m 17 #[.val (.ref o0), .val (.long key), .second, .unset] [])) t
        refine XS.iconst X5.here hx rfl (hb hby d12_17) ?_
        show Steps p.tables e below (T5.setTop (mkF m 18 #[.val (.ref o0), .val (.long key), .second, .unset] [(.int (0 : Int32))])) t
        exact (castTop (congrArg (fun zq_ => (mkF m 18 #[.val (.ref o0), .val (.long key), .second, .unset] [(.int zq_)])) (bi_f h7).symm) k)
    refine OFin.go J6 ?_
    have S8 : ∀ t, Steps p.tables e below (T5.setTop (mkF m 21 #[.val (.ref o0), .val (.long key), .second, .val (.int (bi (hzv = (0 : Int32))))] [(.int (1 : Int32)), (.ref o0)])) t → Steps p.tables e below (T5.setTop (mkF m 18 #[.val (.ref o0), .val (.long key), .second, .unset] [(.int (bi (hzv = (0 : Int32))))])) t := by
      intro t k
      show Steps p.tables e below (T5.setTop (mkF m 18 #[.val (.ref o0), .val (.long key), .second, .unset] [(.int (bi (hzv = (0 : Int32))))])) t
      refine XS.istoreN X5.here hx rfl (hb hby d12_18) rfl (l' := #[.val (.ref o0), .val (.long key), .second, .val (.int (bi (hzv = (0 : Int32))))]) rfl ?_
      show Steps p.tables e below (T5.setTop (mkF m 19 #[.val (.ref o0), .val (.long key), .second, .val (.int (bi (hzv = (0 : Int32))))] [])) t
      refine XS.aloadN X5.here hx rfl (hb hby d12_19) rfl rfl ?_
      show Steps p.tables e below (T5.setTop (mkF m 20 #[.val (.ref o0), .val (.long key), .second, .val (.int (bi (hzv = (0 : Int32))))] [(.ref o0)])) t
      refine XS.iconst X5.here hx rfl (hb hby d12_20) ?_
      exact k
    refine OFin.go S8 ?_
    obtain ⟨T9, h9, X9, e9, W9, st9⟩ := putF X5 hx hZ hown (host := "") (Or.inl (hw _ (List.mem_of_getElem? (i := 92) rfl))) Via.refl e5 Fh E0 (Or.inl (hw _ (List.mem_of_getElem? (i := 93) rfl))) (hw _ (List.mem_of_getElem? (i := 1) rfl)) (ty := .boolean) (by decide) rfl rfl (g := (mkF m 21 #[.val (.ref o0), .val (.long key), .second, .val (.int (bi (hzv = (0 : Int32))))] [(.int (1 : Int32)), (.ref o0)])) rfl rfl (hb hby d12_21)
    have Fw9 := Fh.same W9
    have N9 := Fr.snoc X9 N0 geo
    have Z9 : n0 ≤ h9.size := Nat.le_trans Z0 (wr_le W9)
    have K9 := Keep.wr K0 W9 (Or.inl wtb)
    refine OFin.go st9 ?_
    show OFin p e below _ (T9.setTop (mkF m 24 #[.val (.ref o0), .val (.long key), .second, .val (.int (bi (hzv = (0 : Int32))))] []))
    have S10 : ∀ t, Steps p.tables e below (T9.setTop (mkF m 38 #[.val (.ref o0), .val (.long key), .second, .val (.int (bi (hzv = (0 : Int32))))] [(.int (bi (hzv = (0 : Int32))))])) t → Steps p.tables e below (T9.setTop (mkF m 24 #[.val (.ref o0), .val (.long key), .second, .val (.int (bi (hzv = (0 : Int32))))] [])) t := by
      intro t k
      show Steps p.tables e below (T9.setTop (mkF m 24 #[.val (.ref o0), .val (.long key), .second, .val (.int (bi (hzv = (0 : Int32))))] [])) t
      refine XS.goto X9.here hx rfl (pc0 := 24) (pc' := 37) rfl (hb hby d12_24) (by decide) (by decide) ?_
      show Steps p.tables e below (T9.setTop (mkF m 37 #[.val (.ref o0), .val (.long key), .second, .val (.int (bi (hzv = (0 : Int32))))] [])) t
      refine XS.iloadN X9.here hx rfl (hb hby d12_37) rfl ?_
      exact k
    refine OFin.go S10 ?_
    by_cases h11 : (hzv = (0 : Int32))
    · -- pc 38: (hzv = (0 : Int32))
      have S12 : ∀ t, Steps p.tables e below (T9.setTop (mkF m 41 #[.val (.ref o0), .val (.long key), .second, .val (.int (bi (hzv = (0 : Int32))))] [])) t → Steps p.tables e below (T9.setTop (mkF m 38 #[.val (.ref o0), .val (.long key), .second, .val (.int (bi (hzv = (0 : Int32))))] [(.int (bi (hzv = (0 : Int32))))])) t := by
        intro t k
        show Steps p.tables e below (T9.setTop (mkF m 38 #[.val (.ref o0), .val (.long key), .second, .val (.int (bi (hzv = (0 : Int32))))] [(.int (bi (hzv = (0 : Int32))))])) t
        refine XS.ifNo X9.here hx rfl (hb hby d12_38) rfl (bi_eq_f h11) ?_
        exact k
      refine OFin.go S12 ?_
      have S13 : ∀ t, Steps p.tables e below (T9.setTop (mkF m 43 #[.val (.ref o0), .val (.long key), .second, .val (.int (bi (hzv = (0 : Int32))))] [(.ref o0), (.ref o0)])) t → Steps p.tables e below (T9.setTop (mkF m 41 #[.val (.ref o0), .val (.long key), .second, .val (.int (bi (hzv = (0 : Int32))))] [])) t := by
        intro t k
        show Steps p.tables e below (T9.setTop (mkF m 41 #[.val (.ref o0), .val (.long key), .second, .val (.int (bi (hzv = (0 : Int32))))] [])) t
        refine XS.aloadN X9.here hx rfl (hb hby d12_41) rfl rfl ?_
        show Steps p.tables e below (T9.setTop (mkF m 42 #[.val (.ref o0), .val (.long key), .second, .val (.int (bi (hzv = (0 : Int32))))] [(.ref o0)])) t
        refine XS.dup X9.here hx rfl (hb hby d12_42) rfl rfl ?_
        exact k
      refine OFin.go S13 ?_
      have F14 := Fs.other W9 (Or.inr (slot_ne (Or.inl (hw _ (List.mem_of_getElem? (i := 81) rfl))) (Or.inl (hw _ (List.mem_of_getElem? (i := 93) rfl))) (by decide) (t := .int) (t' := .boolean) (by decide) (by decide)))
      obtain ⟨T15, X15, e15, st15⟩ := getF X9 hx hZ hown (host := "") (Or.inl (hw _ (List.mem_of_getElem? (i := 80) rfl))) Via.refl e9 F14 (g := (mkF m 43 #[.val (.ref o0), .val (.long key), .second, .val (.int (bi (hzv = (0 : Int32))))] [(.ref o0), (.ref o0)])) rfl rfl (hb hby d12_43)
      refine OFin.go st15 ?_
      show OFin p e below _ (T15.setTop (mkF m 46 #[.val (.ref o0), .val (.long key), .second, .val (.int (bi (hzv = (0 : Int32))))] [(.int szv), (.ref o0)]))
      have S16 : ∀ t, Steps p.tables e below (T15.setTop (mkF m 48 #[.val (.ref o0), .val (.long key), .second, .val (.int (bi (hzv = (0 : Int32))))] [(.int (szv + (1 : Int32))), (.ref o0)])) t → Steps p.tables e below (T15.setTop (mkF m 46 #[.val (.ref o0), .val (.long key), .second, .val (.int (bi (hzv = (0 : Int32))))] [(.int szv), (.ref o0)])) t := by
        intro t k
        show Steps p.tables e below (T15.setTop (mkF m 46 #[.val (.ref o0), .val (.long key), .second, .val (.int (bi (hzv = (0 : Int32))))] [(.int szv), (.ref o0)])) t
        refine XS.iconst X15.here hx rfl (hb hby d12_46) ?_
        show Steps p.tables e below (T15.setTop (mkF m 47 #[.val (.ref o0), .val (.long key), .second, .val (.int (bi (hzv = (0 : Int32))))] [(.int (1 : Int32)), (.int szv), (.ref o0)])) t
        refine XS.iadd X15.here hx rfl (hb hby d12_47) rfl ?_
        exact k
      refine OFin.go S16 ?_
      have F17 := E0.wr W9
      obtain ⟨T18, h18, X18, e18, W18, st18⟩ := putF X15 hx hZ hown (host := "") (Or.inl (hw _ (List.mem_of_getElem? (i := 80) rfl))) Via.refl e15 F14 F17 (Or.inl (hw _ (List.mem_of_getElem? (i := 81) rfl))) (hw _ (List.mem_of_getElem? (i := 1) rfl)) (ty := .int) (by decide) rfl rfl (g := (mkF m 48 #[.val (.ref o0), .val (.long key), .second, .val (.int (bi (hzv = (0 : Int32))))] [(.int (szv + (1 : Int32))), (.ref o0)])) rfl rfl (hb hby d12_48)
      have Fw18 := F14.same W18
      have N18 := Fr.snoc X18 N9 geo
      have Z18 : n0 ≤ h18.size := Nat.le_trans Z9 (wr_le W18)
      have K18 := Keep.wr K9 W18 (Or.inl wtb)
      refine OFin.go st18 ?_
      show OFin p e below _ (T18.setTop (mkF m 51 #[.val (.ref o0), .val (.long key), .second, .val (.int (bi (hzv = (0 : Int32))))] []))
      have S19 : ∀ t, Steps p.tables e below (T18.setTop (mkF m 52 #[.val (.ref o0), .val (.long key), .second, .val (.int (bi (hzv = (0 : Int32))))] [(.int (bi (hzv = (0 : Int32))))])) t → Steps p.tables e below (T18.setTop (mkF m 51 #[.val (.ref o0), .val (.long key), .second, .val (.int (bi (hzv = (0 : Int32))))] [])) t := by
        intro t k
        show Steps p.tables e below (T18.setTop (mkF m 51 #[.val (.ref o0), .val (.long key), .second, .val (.int (bi (hzv = (0 : Int32))))] [])) t
        refine XS.iloadN X18.here hx rfl (hb hby d12_51) rfl ?_
        exact k
      refine OFin.go S19 ?_
      have F20 := F17.wr W18
      have F21 := Fp.other W9 (Or.inr (slot_ne (Or.inr (hw _ (List.mem_of_getElem? (i := 12) rfl))) (Or.inl (hw _ (List.mem_of_getElem? (i := 93) rfl))) (by decide) (t := (.array (.object "com/example/clockwrap/clockwrap/store/LongTable$Part"))) (t' := .boolean) (by decide) (by decide)))
      have F22 := F21.other W18 (Or.inr (slot_ne (Or.inr (hw _ (List.mem_of_getElem? (i := 12) rfl))) (Or.inl (hw _ (List.mem_of_getElem? (i := 81) rfl))) (by decide) (t := (.array (.object "com/example/clockwrap/clockwrap/store/LongTable$Part"))) (t' := .int) (by decide) (by decide)))
      have F23 := Fw9.other W18 (Or.inr (slot_ne (Or.inl (hw _ (List.mem_of_getElem? (i := 93) rfl))) (Or.inl (hw _ (List.mem_of_getElem? (i := 81) rfl))) (by decide) (t := .boolean) (t' := .int) (by decide) (by decide)))
      have F24 := Fz.other W9 (Or.inr (slot_ne (Or.inl (hw _ (List.mem_of_getElem? (i := 105) rfl))) (Or.inl (hw _ (List.mem_of_getElem? (i := 93) rfl))) (by decide) (t := .long) (t' := .boolean) (by decide) (by decide)))
      have F25 := F24.other W18 (Or.inr (slot_ne (Or.inl (hw _ (List.mem_of_getElem? (i := 105) rfl))) (Or.inl (hw _ (List.mem_of_getElem? (i := 81) rfl))) (by decide) (t := .long) (t' := .int) (by decide) (by decide)))
      have F26 := Vp.other W9 (Ne.symm nop)
      have F27 := F26.other W18 (Ne.symm nop)
      have F28 := FAM.keep hFM (Keep.of_wr W9) (allS (Or.inl rfl) all0)
      have F29 := FAM.keep F28 (Keep.of_wr W18) (allS (Or.inl rfl) all0)
      have F30 := Nat.le_trans hzl (wr_le W9)
      have F31 := Nat.le_trans F30 (wr_le W18)
      exact finZ X18 hx Bd.notSynchronized (t := .boolean) Bd.returns (by simp) (hb hby d12_52) (nar_bi _) (by decide) (by decide) (by rw [e18]; exact ⟨_, Wl, rfl, N18, K18, ⟨pr, pa, FF, KK, VV, TT, 1, _, zvv, zz, F20, F22, Fw18, F23, F25, F27, FAM.mono F29 (Nat.le_succ _), F31, nop, geo, ⟨wtb, wpr, wF, wW⟩, Or.inl rfl, fun q => absurd q (by decide), fun k v q => ((addM_l key).2 M k v (fun r => q (r.trans h2))).trans (hM k v q), own_add0 h2 hz01 hz0 hM0⟩, fun x q => Or.inl q⟩)
    · -- pc 38: not (hzv = (0 : Int32))
      have S32 : ∀ t, Steps p.tables e below (T9.setTop (mkF m 51 #[.val (.ref o0), .val (.long key), .second, .val (.int (bi (hzv = (0 : Int32))))] [])) t → Steps p.tables e below (T9.setTop (mkF m 38 #[.val (.ref o0), .val (.long key), .second, .val (.int (bi (hzv = (0 : Int32))))] [(.int (bi (hzv = (0 : Int32))))])) t := by
        intro t k
        show Steps p.tables e below (T9.setTop (mkF m 38 #[.val (.ref o0), .val (.long key), .second, .val (.int (bi (hzv = (0 : Int32))))] [(.int (bi (hzv = (0 : Int32))))])) t
        refine XS.ifYes X9.here hx rfl (pc0 := 38) (pc' := 51) rfl (hb hby d12_38) rfl (bi_eq_t h11) (by decide) (by decide) ?_
        exact k
      refine OFin.go S32 ?_
      have S33 : ∀ t, Steps p.tables e below (T9.setTop (mkF m 52 #[.val (.ref o0), .val (.long key), .second, .val (.int (bi (hzv = (0 : Int32))))] [(.int (bi (hzv = (0 : Int32))))])) t → Steps p.tables e below (T9.setTop (mkF m 51 #[.val (.ref o0), .val (.long key), .second, .val (.int (bi (hzv = (0 : Int32))))] [])) t := by
        intro t k
        show Steps p.tables e below (T9.setTop (mkF m 51 #[.val (.ref o0), .val (.long key), .second, .val (.int (bi (hzv = (0 : Int32))))] [])) t
        refine XS.iloadN X9.here hx rfl (hb hby d12_51) rfl ?_
        exact k
      refine OFin.go S33 ?_
      have F34 := E0.wr W9
      have F35 := Fp.other W9 (Or.inr (slot_ne (Or.inr (hw _ (List.mem_of_getElem? (i := 12) rfl))) (Or.inl (hw _ (List.mem_of_getElem? (i := 93) rfl))) (by decide) (t := (.array (.object "com/example/clockwrap/clockwrap/store/LongTable$Part"))) (t' := .boolean) (by decide) (by decide)))
      have F36 := Fs.other W9 (Or.inr (slot_ne (Or.inl (hw _ (List.mem_of_getElem? (i := 81) rfl))) (Or.inl (hw _ (List.mem_of_getElem? (i := 93) rfl))) (by decide) (t := .int) (t' := .boolean) (by decide) (by decide)))
      have F37 := Fz.other W9 (Or.inr (slot_ne (Or.inl (hw _ (List.mem_of_getElem? (i := 105) rfl))) (Or.inl (hw _ (List.mem_of_getElem? (i := 93) rfl))) (by decide) (t := .long) (t' := .boolean) (by decide) (by decide)))
      have F38 := Vp.other W9 (Ne.symm nop)
      have F39 := FAM.keep hFM (Keep.of_wr W9) (allS (Or.inl rfl) all0)
      have F40 := Nat.le_trans hzl (wr_le W9)
      exact finZ X9 hx Bd.notSynchronized (t := .boolean) Bd.returns (by simp) (hb hby d12_52) (nar_bi _) (by decide) (by decide) (by rw [e9]; exact ⟨_, Wl, rfl, N9, K9, ⟨pr, pa, FF, KK, VV, TT, 1, _, zvv, zz, F34, F35, F36, Fw9, F37, F38, FAM.mono F39 (Nat.le_succ _), F40, nop, geo, ⟨wtb, wpr, wF, wW⟩, Or.inl rfl, fun q => absurd q (by decide), fun k v q => ((addM_l key).2 M k v (fun r => q (r.trans h2))).trans (hM k v q), own_add0 h2 hz01 hz0 hM0⟩, fun x q => Or.inl q⟩)
  · -- pc 3: not (key = (0 : Int64))
    have S41 : ∀ t, Steps p.tables e below (s₁.setTop (mkF m 27 #[.val (.ref o0), .val (.long key), .second, .unset] [])) t → Steps p.tables e below (s₁.setTop (mkF m 3 #[.val (.ref o0), .val (.long key), .second, .unset] [(.int (lcmpW key (0 : Int64)))])) t := by
      intro t k
      show Steps p.tables e below (s₁.setTop (mkF m 3 #[.val (.ref o0), .val (.long key), .second, .unset] [(.int (lcmpW key (0 : Int64)))])) t
      refine XS.ifYes X0.here hx rfl (pc0 := 3) (pc' := 27) rfl (hb hby d12_3) rfl (lc_ne_t h2) (by decide) (by decide) ?_
      exact k
    refine OFin.go S41 ?_
    have S42 : ∀ t, Steps p.tables e below (s₁.setTop (mkF m 29 #[.val (.ref o0), .val (.long key), .second, .unset] [(.long key), (.ref o0)])) t → Steps p.tables e below (s₁.setTop (mkF m 27 #[.val (.ref o0), .val (.long key), .second, .unset] [])) t := by
      intro t k
      show Steps p.tables e below (s₁.setTop (mkF m 27 #[.val (.ref o0), .val (.long key), .second, .unset] [])) t
      refine XS.aloadN X0.here hx rfl (hb hby d12_27) rfl rfl ?_
      show Steps p.tables e below (s₁.setTop (mkF m 28 #[.val (.ref o0), .val (.long key), .second, .unset] [(.ref o0)])) t
      refine XS.lloadN X0.here hx rfl (hb hby d12_28) rfl ?_
      exact k
    refine OFin.go S42 ?_
    obtain ⟨_, T43, Lc43, X43, hQ43, st43⟩ := privQ X0 hx hZ (y := (⟨"com/example/clockwrap/clockwrap/store/LongTable", "part", "(J)Lcom/example/clockwrap/clockwrap/store/LongTable$Part;"⟩ : MethodName)) hown (hw _ (List.mem_of_getElem? (i := 43) rfl)) (hw _ (List.mem_of_getElem? (i := 44) rfl)) (hw _ (List.mem_of_getElem? (i := 2) rfl)) (hw _ (List.mem_of_getElem? (i := 46) rfl)) (hw _ (List.mem_of_getElem? (i := 45) rfl)) (hw _ (List.mem_of_getElem? (i := 1) rfl)) (by decide) E0 (argsL := [(.long key)]) (rest := []) (rm8 l Z a0 hw [] o0 key pr pa h0 n0 Z0 Fp Vp) (W := 0) (by decide) (by decide) e0 (g := (mkF m 29 #[.val (.ref o0), .val (.long key), .second, .unset] [(.long key), (.ref o0)])) rfl (by rw [hml]; rfl) (lenOf pd_5 rfl) rfl (by show 2 * 0 + _ ≤ _; exact Nat.le_of_eq rfl) (hb hby d12_29) (Nat.le_of_ble_eq_true rfl) (Nat.le_of_ble_eq_true rfl)
    obtain ⟨rfl, N43q, e43⟩ := hQ43
    have N43 := Fr.app N0 N43q
    refine OFin.go st43 ?_
    show OFin p e below _ (T43.setTop (mkF m 32 #[.val (.ref o0), .val (.long key), .second, .unset] [(.ref (pa (ix key)))]))
    have S44 : ∀ t, Steps p.tables e below (T43.setTop (mkF m 33 #[.val (.ref o0), .val (.long key), .second, .unset] [(.long key), (.ref (pa (ix key)))])) t → Steps p.tables e below (T43.setTop (mkF m 32 #[.val (.ref o0), .val (.long key), .second, .unset] [(.ref (pa (ix key)))])) t := by
      intro t k
      show Steps p.tables e below (T43.setTop (mkF m 32 #[.val (.ref o0), .val (.long key), .second, .unset] [(.ref (pa (ix key)))])) t
      refine XS.lloadN X43.here hx rfl (hb hby d12_32) rfl ?_
      exact k
    refine OFin.go S44 ?_
    obtain ⟨_, T45, Lc45, X45, hQ45, st45⟩ := virtQ X43 hx hZ (y := (⟨"com/example/clockwrap/clockwrap/store/LongTable$Part", "add", "(J)Z"⟩ : MethodName)) hown (hw _ (List.mem_of_getElem? (i := 67) rfl)) (hw _ (List.mem_of_getElem? (i := 69) rfl)) (hw _ (List.mem_of_getElem? (i := 14) rfl)) (hw _ (List.mem_of_getElem? (i := 71) rfl)) (hw _ (List.mem_of_getElem? (i := 68) rfl)) (hw _ (List.mem_of_getElem? (i := 70) rfl)) (by decide) (hFM.1 _ (ix_lt key)).1.exa (argsL := [(.long key)]) (rest := []) (p_add l Z a0 hw (pa (ix key)) key (FF (ix key)) (KK (ix key)) (VV (ix key)) (TT (ix key)) mm h0 n0 Z0 (hFM.1 _ (ix_lt key)).1 (fun x q => ((hFM.1 _ (ix_lt key)).2.2 x q).1) (hFM.1 _ (ix_lt key)).2.1 hmm h2) (W := 0) (by decide) (by decide) e43 (g := (mkF m 33 #[.val (.ref o0), .val (.long key), .second, .unset] [(.long key), (.ref (pa (ix key)))])) rfl (by rw [hml]; rfl) (lenOf pd_6 rfl) rfl (by show 2 * 0 + _ ≤ _; exact Nat.le_of_eq rfl) (hb hby d12_33) (Nat.le_of_ble_eq_true rfl) (Nat.le_of_ble_eq_true rfl)
    obtain ⟨bb, F', kf', vf', tk', rfl, N45q, K45q, hT', hs', hP', hR'⟩ := hQ45
    have Z45 : n0 ≤ T45.heap.size := Nat.le_trans Z0 K45q.1
    obtain ⟨M45, wU, hsb⟩ := own_B hFM (ix_lt key) hzl E0.lt Vp.lt Z0 K45q hT' hs' hP' wtb wpr wF wW
    have K45 := Keep.trans K0 K45q (fun x q => Or.inl (wF _ (ix_lt key) x q))
    have N45 := Fr.app N43 N45q
    refine OFin.go st45 ?_
    show OFin p e below _ (T45.setTop (mkF m 36 #[.val (.ref o0), .val (.long key), .second, .unset] [(.int bb)]))
    have S46 : ∀ t, Steps p.tables e below (T45.setTop (mkF m 38 #[.val (.ref o0), .val (.long key), .second, .val (.int bb)] [(.int bb)])) t → Steps p.tables e below (T45.setTop (mkF m 36 #[.val (.ref o0), .val (.long key), .second, .unset] [(.int bb)])) t := by
      intro t k
      show Steps p.tables e below (T45.setTop (mkF m 36 #[.val (.ref o0), .val (.long key), .second, .unset] [(.int bb)])) t
      refine XS.istoreN X45.here hx rfl (hb hby d12_36) rfl (l' := #[.val (.ref o0), .val (.long key), .second, .val (.int bb)]) rfl ?_
      show Steps p.tables e below (T45.setTop (mkF m 37 #[.val (.ref o0), .val (.long key), .second, .val (.int bb)] [])) t
      refine XS.iloadN X45.here hx rfl (hb hby d12_37) rfl ?_
      exact k
    refine OFin.go S46 ?_
    by_cases h47 : (bb = (0 : Int32))
    · -- pc 38: (bb = (0 : Int32))
      have S48 : ∀ t, Steps p.tables e below (T45.setTop (mkF m 51 #[.val (.ref o0), .val (.long key), .second, .val (.int bb)] [])) t → Steps p.tables e below (T45.setTop (mkF m 38 #[.val (.ref o0), .val (.long key), .second, .val (.int bb)] [(.int bb)])) t := by
        intro t k
        show Steps p.tables e below (T45.setTop (mkF m 38 #[.val (.ref o0), .val (.long key), .second, .val (.int bb)] [(.int bb)])) t
        refine XS.ifYes X45.here hx rfl (pc0 := 38) (pc' := 51) rfl (hb hby d12_38) rfl ((if0 _ _).trans (teq h47).1) (by decide) (by decide) ?_
        exact k
      refine OFin.go S48 ?_
      have S49 : ∀ t, Steps p.tables e below (T45.setTop (mkF m 52 #[.val (.ref o0), .val (.long key), .second, .val (.int bb)] [(.int bb)])) t → Steps p.tables e below (T45.setTop (mkF m 51 #[.val (.ref o0), .val (.long key), .second, .val (.int bb)] [])) t := by
        intro t k
        show Steps p.tables e below (T45.setTop (mkF m 51 #[.val (.ref o0), .val (.long key), .second, .val (.int bb)] [])) t
        refine XS.iloadN X45.here hx rfl (hb hby d12_51) rfl ?_
        exact k
      refine OFin.go S49 ?_
      have F50 := E0.keep K45q
      have F51 := Fp.keep K45q (fun q => ((hFM.1 _ (ix_lt key)).2.2 _ q).2.2.1 rfl)
      have F52 := Fs.keep K45q (fun q => ((hFM.1 _ (ix_lt key)).2.2 _ q).2.2.1 rfl)
      have F53 := Fh.keep K45q (fun q => ((hFM.1 _ (ix_lt key)).2.2 _ q).2.2.1 rfl)
      have F54 := Fz.keep K45q (fun q => ((hFM.1 _ (ix_lt key)).2.2 _ q).2.2.1 rfl)
      have F55 := Vp.keep K45q (fun q => ((hFM.1 _ (ix_lt key)).2.2 _ q).2.2.2 rfl)
      exact finZ X45 hx Bd.notSynchronized (t := .boolean) Bd.returns (by simp) (hb hby d12_52) rfl (by decide) (by decide) (by exact ⟨_, Wl ++ F', rfl, N45, K45, ⟨pr, pa, upd FF (ix key) F', upd KK (ix key) kf', upd VV (ix key) vf', upd TT (ix key) tk', hzv, _, zvv, _, F50, F51, F52, F53, F54, F55, M45, (Nat.le_refl T45.heap.size), nop, geo, wU, hz01, hz0, own_rel hM h2 (addM_l key) hR', fun v => ((addM_l key).2 M 0 v (fun r => h2 r.symm)).trans (hM0 v)⟩, hsb⟩)
    · -- pc 38: not (bb = (0 : Int32))
      have S56 : ∀ t, Steps p.tables e below (T45.setTop (mkF m 41 #[.val (.ref o0), .val (.long key), .second, .val (.int bb)] [])) t → Steps p.tables e below (T45.setTop (mkF m 38 #[.val (.ref o0), .val (.long key), .second, .val (.int bb)] [(.int bb)])) t := by
        intro t k
        show Steps p.tables e below (T45.setTop (mkF m 38 #[.val (.ref o0), .val (.long key), .second, .val (.int bb)] [(.int bb)])) t
        refine XS.ifNo X45.here hx rfl (hb hby d12_38) rfl ((if0 _ _).trans (feq h47).1) ?_
        exact k
      refine OFin.go S56 ?_
      have S57 : ∀ t, Steps p.tables e below (T45.setTop (mkF m 43 #[.val (.ref o0), .val (.long key), .second, .val (.int bb)] [(.ref o0), (.ref o0)])) t → Steps p.tables e below (T45.setTop (mkF m 41 #[.val (.ref o0), .val (.long key), .second, .val (.int bb)] [])) t := by
        intro t k
        show Steps p.tables e below (T45.setTop (mkF m 41 #[.val (.ref o0), .val (.long key), .second, .val (.int bb)] [])) t
        refine XS.aloadN X45.here hx rfl (hb hby d12_41) rfl rfl ?_
        show Steps p.tables e below (T45.setTop (mkF m 42 #[.val (.ref o0), .val (.long key), .second, .val (.int bb)] [(.ref o0)])) t
        refine XS.dup X45.here hx rfl (hb hby d12_42) rfl rfl ?_
        exact k
      refine OFin.go S57 ?_
      have F58 := Fs.keep K45q (fun q => ((hFM.1 _ (ix_lt key)).2.2 _ q).2.2.1 rfl)
      obtain ⟨T59, X59, e59, st59⟩ := getF X45 hx hZ hown (host := "") (Or.inl (hw _ (List.mem_of_getElem? (i := 80) rfl))) Via.refl rfl F58 (g := (mkF m 43 #[.val (.ref o0), .val (.long key), .second, .val (.int bb)] [(.ref o0), (.ref o0)])) rfl rfl (hb hby d12_43)
      refine OFin.go st59 ?_
      show OFin p e below _ (T59.setTop (mkF m 46 #[.val (.ref o0), .val (.long key), .second, .val (.int bb)] [(.int szv), (.ref o0)]))
      have S60 : ∀ t, Steps p.tables e below (T59.setTop (mkF m 48 #[.val (.ref o0), .val (.long key), .second, .val (.int bb)] [(.int (szv + (1 : Int32))), (.ref o0)])) t → Steps p.tables e below (T59.setTop (mkF m 46 #[.val (.ref o0), .val (.long key), .second, .val (.int bb)] [(.int szv), (.ref o0)])) t := by
        intro t k
        show Steps p.tables e below (T59.setTop (mkF m 46 #[.val (.ref o0), .val (.long key), .second, .val (.int bb)] [(.int szv), (.ref o0)])) t
        refine XS.iconst X59.here hx rfl (hb hby d12_46) ?_
        show Steps p.tables e below (T59.setTop (mkF m 47 #[.val (.ref o0), .val (.long key), .second, .val (.int bb)] [(.int (1 : Int32)), (.int szv), (.ref o0)])) t
        refine XS.iadd X59.here hx rfl (hb hby d12_47) rfl ?_
        exact k
      refine OFin.go S60 ?_
      have F61 := E0.keep K45q
      obtain ⟨T62, h62, X62, e62, W62, st62⟩ := putF X59 hx hZ hown (host := "") (Or.inl (hw _ (List.mem_of_getElem? (i := 80) rfl))) Via.refl e59 F58 F61 (Or.inl (hw _ (List.mem_of_getElem? (i := 81) rfl))) (hw _ (List.mem_of_getElem? (i := 1) rfl)) (ty := .int) (by decide) rfl rfl (g := (mkF m 48 #[.val (.ref o0), .val (.long key), .second, .val (.int bb)] [(.int (szv + (1 : Int32))), (.ref o0)])) rfl rfl (hb hby d12_48)
      have Fw62 := F58.same W62
      have N62 := Fr.snoc X62 N45 geo
      have Z62 : n0 ≤ h62.size := Nat.le_trans Z45 (wr_le W62)
      have K62 := Keep.wr K45 W62 (Or.inl wtb)
      refine OFin.go st62 ?_
      show OFin p e below _ (T62.setTop (mkF m 51 #[.val (.ref o0), .val (.long key), .second, .val (.int bb)] []))
      have S63 : ∀ t, Steps p.tables e below (T62.setTop (mkF m 52 #[.val (.ref o0), .val (.long key), .second, .val (.int bb)] [(.int bb)])) t → Steps p.tables e below (T62.setTop (mkF m 51 #[.val (.ref o0), .val (.long key), .second, .val (.int bb)] [])) t := by
        intro t k
        show Steps p.tables e below (T62.setTop (mkF m 51 #[.val (.ref o0), .val (.long key), .second, .val (.int bb)] [])) t
        refine XS.iloadN X62.here hx rfl (hb hby d12_51) rfl ?_
        exact k
      refine OFin.go S63 ?_
      have F64 := F61.wr W62
      have F65 := Fp.keep K45q (fun q => ((hFM.1 _ (ix_lt key)).2.2 _ q).2.2.1 rfl)
      have F66 := F65.other W62 (Or.inr (slot_ne (Or.inr (hw _ (List.mem_of_getElem? (i := 12) rfl))) (Or.inl (hw _ (List.mem_of_getElem? (i := 81) rfl))) (by decide) (t := (.array (.object "com/example/clockwrap/clockwrap/store/LongTable$Part"))) (t' := .int) (by decide) (by decide)))
      have F67 := Fh.keep K45q (fun q => ((hFM.1 _ (ix_lt key)).2.2 _ q).2.2.1 rfl)
      have F68 := F67.other W62 (Or.inr (slot_ne (Or.inl (hw _ (List.mem_of_getElem? (i := 93) rfl))) (Or.inl (hw _ (List.mem_of_getElem? (i := 81) rfl))) (by decide) (t := .boolean) (t' := .int) (by decide) (by decide)))
      have F69 := Fz.keep K45q (fun q => ((hFM.1 _ (ix_lt key)).2.2 _ q).2.2.1 rfl)
      have F70 := F69.other W62 (Or.inr (slot_ne (Or.inl (hw _ (List.mem_of_getElem? (i := 105) rfl))) (Or.inl (hw _ (List.mem_of_getElem? (i := 81) rfl))) (by decide) (t := .long) (t' := .int) (by decide) (by decide)))
      have F71 := Vp.keep K45q (fun q => ((hFM.1 _ (ix_lt key)).2.2 _ q).2.2.2 rfl)
      have F72 := F71.other W62 (Ne.symm nop)
      have F73 := FAM.keep M45 (Keep.of_wr W62) (allS (Or.inl rfl) all0)
      have F74 := Nat.le_trans (Nat.le_refl T45.heap.size) (wr_le W62)
      exact finZ X62 hx Bd.notSynchronized (t := .boolean) Bd.returns (by simp) (hb hby d12_52) rfl (by decide) (by decide) (by rw [e62]; exact ⟨_, Wl ++ F', rfl, N62, K62, ⟨pr, pa, upd FF (ix key) F', upd KK (ix key) kf', upd VV (ix key) vf', upd TT (ix key) tk', hzv, _, zvv, _, F64, F66, Fw62, F68, F70, F72, F73, F74, nop, geo, wU, hz01, hz0, own_rel hM h2 (addM_l key) hR', fun v => ((addM_l key).2 M 0 v (fun r => h2 r.symm)).trans (hM0 v)⟩, hsb⟩)
theorem ef_rm7 (m : MethodId) (o0 : Addr) (key : Int64) : entryFrame m #[(.ref o0), (.long key)] 4 = mkF m 0 #[.val (.ref o0), .val (.long key), .second, .unset] [] := by first | (simp [entryFrame, mkF, argsToLocals, Value.category]; done) | rfl
def Q_rm7 (Z : State) (o0 : Addr) (key : Int64) (Wl : List Addr) (mm : Nat) (M : Int64 → Int64 → Prop) (h0 : Heap) (n0 : Nat) (v : Option Value) (h : Heap) (L : List Loc) : Prop := ∃ (b : Int32) (Wl' : List Addr), v = some (.int b) ∧ Fr n0 L ∧ Keep h0 h Wl ∧ TBL Z h n0 o0 Wl' (mm + 1) (remM key M) ∧ ∀ x ∈ Wl', x ∈ Wl ∨ h0.size ≤ x
theorem d7_0 : decode prog_32_method_7_code 0 = .ok (.lload_n 1, 1) := by decide +kernel
theorem d7_1 : decode prog_32_method_7_code 1 = .ok (.lconst 0, 1) := by decide +kernel
theorem d7_2 : decode prog_32_method_7_code 2 = .ok (.lcmp, 1) := by decide +kernel
theorem d7_3 : decode prog_32_method_7_code 3 = .ok (.ifCond .ne 21, 3) := by decide +kernel
theorem d7_6 : decode prog_32_method_7_code 6 = .ok (.aload_n 0, 1) := by decide +kernel
theorem d7_7 : decode prog_32_method_7_code 7 = .ok (.getfield 20, 3) := by decide +kernel
theorem d7_10 : decode prog_32_method_7_code 10 = .ok (.istore_n 3, 1) := by decide +kernel
theorem d7_11 : decode prog_32_method_7_code 11 = .ok (.aload_n 0, 1) := by decide +kernel
theorem d7_12 : decode prog_32_method_7_code 12 = .ok (.iconst 0, 1) := by decide +kernel
theorem d7_13 : decode prog_32_method_7_code 13 = .ok (.putfield 20, 3) := by decide +kernel
theorem d7_16 : decode prog_32_method_7_code 16 = .ok (.aload_n 0, 1) := by decide +kernel
theorem d7_17 : decode prog_32_method_7_code 17 = .ok (.lconst 0, 1) := by decide +kernel
theorem d7_18 : decode prog_32_method_7_code 18 = .ok (.putfield 35, 3) := by decide +kernel
theorem d7_21 : decode prog_32_method_7_code 21 = .ok (.goto 13, 3) := by decide +kernel
theorem d7_34 : decode prog_32_method_7_code 34 = .ok (.iload_n 3, 1) := by decide +kernel
theorem d7_35 : decode prog_32_method_7_code 35 = .ok (.ifCond .eq 13, 3) := by decide +kernel
theorem d7_48 : decode prog_32_method_7_code 48 = .ok (.iload_n 3, 1) := by decide +kernel
theorem d7_49 : decode prog_32_method_7_code 49 = .ok (.ireturn, 1) := by decide +kernel
theorem d7_38 : decode prog_32_method_7_code 38 = .ok (.aload_n 0, 1) := by decide +kernel
theorem d7_39 : decode prog_32_method_7_code 39 = .ok (.dup, 1) := by decide +kernel
theorem d7_40 : decode prog_32_method_7_code 40 = .ok (.getfield 16, 3) := by decide +kernel
theorem d7_43 : decode prog_32_method_7_code 43 = .ok (.iconst 1, 1) := by decide +kernel
theorem d7_44 : decode prog_32_method_7_code 44 = .ok (.isub, 1) := by decide +kernel
theorem d7_45 : decode prog_32_method_7_code 45 = .ok (.putfield 16, 3) := by decide +kernel
theorem d7_24 : decode prog_32_method_7_code 24 = .ok (.aload_n 0, 1) := by decide +kernel
theorem d7_25 : decode prog_32_method_7_code 25 = .ok (.lload_n 1, 1) := by decide +kernel
theorem d7_26 : decode prog_32_method_7_code 26 = .ok (.invokevirtual 24, 3) := by decide +kernel
theorem d7_29 : decode prog_32_method_7_code 29 = .ok (.lload_n 1, 1) := by decide +kernel
theorem d7_30 : decode prog_32_method_7_code 30 = .ok (.invokevirtual 47, 3) := by decide +kernel
theorem d7_33 : decode prog_32_method_7_code 33 = .ok (.istore_n 3, 1) := by decide +kernel
set_option maxRecDepth 65536 in
set_option maxHeartbeats 40000000 in
theorem rm7 (l : Launch) (Z : State) (a0 : Array Value) (hw : ∀ d ∈ tables_1, d.before a0 Z = true) (ws : List Jvm.Cond) (o0 : Addr) (key : Int64) (Wl : List Addr) (mm : Nat) (M : Int64 → Int64 → Prop) (h0 : Heap) (n0 : Nat) (Z0 : n0 ≤ h0.size) (hT : TBL Z h0 n0 o0 Wl mm M) (hmm : mm < 10) :
    MetFree l (⟨"com/example/clockwrap/clockwrap/store/LongTable", "remove", "(J)Z"⟩ : MethodName) (head1 (Jvm.Cond.code (⟨"com/example/clockwrap/clockwrap/store/LongTable", "remove", "(J)Z"⟩ : MethodName) prog_32_method_7_code 4 (some .boolean) :: ws) ({ frames := 3, cells := 0, slots := 0, locals := 60 } : Room)) (fun a U => a = #[(.ref o0), (.long key)] ∧ Z.Warmed39 U.vm ∧ U.heap = h0) (fun _ _ _ _ _ => True) (fun _ U o U' => ∃ v L, o = .returned v ∧ (Q_rm7 Z o0 key Wl mm M h0 n0) v U'.heap L ∧ FrameEnd U o U' L ({ frames := 3, cells := 0, slots := 0, locals := 60 } : Room).cells ({ frames := 3, cells := 0, slots := 0, locals := 60 } : Room).slots) := by
  refine MetFree.of_bodySF (plainFor_of_name pn_2) hisR ?_
  intro p e s m args below meth c s₁ Bd hml0 hP hK
  obtain ⟨rfl, hZ, hh⟩ := hP
  have hx := Bd.exec
  have hby := Bd.bytes
  have hml : c.maxLocals = 4 := hml0
  have hown : s.vm.findClass "com/example/clockwrap/clockwrap/store/LongTable" = some m.cls := findClass_of_methodNamed Bd.named
  have hnm := (name_of_methodNamed Bd.named Bd.method).1
  have X0 : Stand p l e ({ frames := 3, cells := 0, slots := 0, locals := 60 } : Room) s m #[(.ref o0), (.long key)] below meth c s₁ [] 0 0 := Stand.of_body Bd
  have e0 : s₁.heap = h0 := by rw [← hh, Bd.state]; rfl
  have N0 := Fr.nil n0
  show OFin p e below (ORet (Q_rm7 Z o0 key Wl mm M h0 n0) s ({ frames := 3, cells := 0, slots := 0, locals := 60 } : Room).cells ({ frames := 3, cells := 0, slots := 0, locals := 60 } : Room).slots) (s₁.setTop (entryFrame m #[(.ref o0), (.long key)] 4))
  refine OFin.go (fun t k => castTop (ef_rm7 m o0 key) k) ?_
  obtain ⟨pr, pa, FF, KK, VV, TT, hzv, szv, zvv, zz, E0, Fp, Fs, Fh, Fz, Vp, hFM, hzl, nop, geo, ⟨wtb, wpr, wF, wW⟩, hz01, hz0, hM, hM0⟩ := hT
  have K0 := Keep.refl h0 Wl
  show OFin p e below (ORet (Q_rm7 Z o0 key Wl mm M h0 n0) s ({ frames := 3, cells := 0, slots := 0, locals := 60 } : Room).cells ({ frames := 3, cells := 0, slots := 0, locals := 60 } : Room).slots) (s₁.setTop (mkF m 0 #[.val (.ref o0), .val (.long key), .second, .unset] []))
  have S1 : ∀ t, Steps p.tables e below (s₁.setTop (mkF m 3 #[.val (.ref o0), .val (.long key), .second, .unset] [(.int (lcmpW key (0 : Int64)))])) t → Steps p.tables e below (s₁.setTop (mkF m 0 #[.val (.ref o0), .val (.long key), .second, .unset] [])) t := by
    intro t k
    show Steps p.tables e below (s₁.setTop (mkF m 0 #[.val (.ref o0), .val (.long key), .second, .unset] [])) t
    refine XS.lloadN X0.here hx rfl (hb hby d7_0) rfl ?_
    show Steps p.tables e below (s₁.setTop (mkF m 1 #[.val (.ref o0), .val (.long key), .second, .unset] [(.long key)])) t
    refine XS.lconst X0.here hx rfl (hb hby d7_1) ?_
    show Steps p.tables e below (s₁.setTop (mkF m 2 #[.val (.ref o0), .val (.long key), .second, .unset] [(.long (0 : Int64)), (.long key)])) t
    refine XS.lcmp X0.here hx rfl (hb hby d7_2) rfl ?_
    exact k
  refine OFin.go S1 ?_
  by_cases h2 : (key = (0 : Int64))
  · -- pc 3: (key = (0 : Int64))
    have S3 : ∀ t, Steps p.tables e below (s₁.setTop (mkF m 6 #[.val (.ref o0), .val (.long key), .second, .unset] [])) t → Steps p.tables e below (s₁.setTop (mkF m 3 #[.val (.ref o0), .val (.long key), .second, .unset] [(.int (lcmpW key (0 : Int64)))])) t := by
      intro t k
      show Steps p.tables e below (s₁.setTop (mkF m 3 #[.val (.ref o0), .val (.long key), .second, .unset] [(.int (lcmpW key (0 : Int64)))])) t
      refine XS.ifNo X0.here hx rfl (hb hby d7_3) rfl (lc_ne_f h2) ?_
      exact k
    refine OFin.go S3 ?_
    have S4 : ∀ t, Steps p.tables e below (s₁.setTop (mkF m 7 #[.val (.ref o0), .val (.long key), .second, .unset] [(.ref o0)])) t → Steps p.tables e below (s₁.setTop (mkF m 6 #[.val (.ref o0), .val (.long key), .second, .unset] [])) t := by
      intro t k
      show Steps p.tables e below (s₁.setTop (mkF m 6 #[.val (.ref o0), .val (.long key), .second, .unset] [])) t
      refine XS.aloadN X0.here hx rfl (hb hby d7_6) rfl rfl ?_
      exact k
    refine OFin.go S4 ?_
    obtain ⟨T5, X5, e5, st5⟩ := getF X0 hx hZ hown (host := "") (Or.inl (hw _ (List.mem_of_getElem? (i := 92) rfl))) Via.refl e0 Fh (g := (mkF m 7 #[.val (.ref o0), .val (.long key), .second, .unset] [(.ref o0)])) rfl rfl (hb hby d7_7)
    refine OFin.go st5 ?_
    show OFin p e below _ (T5.setTop (mkF m 10 #[.val (.ref o0), .val (.long key), .second, .unset] [(.int hzv)]))
    have S6 : ∀ t, Steps p.tables e below (T5.setTop (mkF m 13 #[.val (.ref o0), .val (.long key), .second, .val (.int hzv)] [(.int (0 : Int32)), (.ref o0)])) t → Steps p.tables e below (T5.setTop (mkF m 10 #[.val (.ref o0), .val (.long key), .second, .unset] [(.int hzv)])) t := by
      intro t k
      show Steps p.tables e below (T5.setTop (mkF m 10 #[.val (.ref o0), .val (.long key), .second, .unset] [(.int hzv)])) t
      refine XS.istoreN X5.here hx rfl (hb hby d7_10) rfl (l' := #[.val (.ref o0), .val (.long key), .second, .val (.int hzv)]) rfl ?_
      show Steps p.tables e below (T5.setTop (mkF m 11 #[.val (.ref o0), .val (.long key), .second, .val (.int hzv)] [])) t
      refine XS.aloadN X5.here hx rfl (hb hby d7_11) rfl rfl ?_
      show Steps p.tables e below (T5.setTop (mkF m 12 #[.val (.ref o0), .val (.long key), .second, .val (.int hzv)] [(.ref o0)])) t
      refine XS.iconst X5.here hx rfl (hb hby d7_12) ?_
      exact k
    refine OFin.go S6 ?_
    obtain ⟨T7, h7, X7, e7, W7, st7⟩ := putF X5 hx hZ hown (host := "") (Or.inl (hw _ (List.mem_of_getElem? (i := 92) rfl))) Via.refl e5 Fh E0 (Or.inl (hw _ (List.mem_of_getElem? (i := 93) rfl))) (hw _ (List.mem_of_getElem? (i := 1) rfl)) (ty := .boolean) (by decide) rfl rfl (g := (mkF m 13 #[.val (.ref o0), .val (.long key), .second, .val (.int hzv)] [(.int (0 : Int32)), (.ref o0)])) rfl rfl (hb hby d7_13)
    have Fw7 := Fh.same W7
    have N7 := Fr.snoc X7 N0 geo
    have Z7 : n0 ≤ h7.size := Nat.le_trans Z0 (wr_le W7)
    have K7 := Keep.wr K0 W7 (Or.inl wtb)
    refine OFin.go st7 ?_
    show OFin p e below _ (T7.setTop (mkF m 16 #[.val (.ref o0), .val (.long key), .second, .val (.int hzv)] []))
    have S8 : ∀ t, Steps p.tables e below (T7.setTop (mkF m 18 #[.val (.ref o0), .val (.long key), .second, .val (.int hzv)] [(.long (0 : Int64)), (.ref o0)])) t → Steps p.tables e below (T7.setTop (mkF m 16 #[.val (.ref o0), .val (.long key), .second, .val (.int hzv)] [])) t := by
      intro t k
      show Steps p.tables e below (T7.setTop (mkF m 16 #[.val (.ref o0), .val (.long key), .second, .val (.int hzv)] [])) t
      refine XS.aloadN X7.here hx rfl (hb hby d7_16) rfl rfl ?_
      show Steps p.tables e below (T7.setTop (mkF m 17 #[.val (.ref o0), .val (.long key), .second, .val (.int hzv)] [(.ref o0)])) t
      refine XS.lconst X7.here hx rfl (hb hby d7_17) ?_
      exact k
    refine OFin.go S8 ?_
    have F9 := Fz.other W7 (Or.inr (slot_ne (Or.inl (hw _ (List.mem_of_getElem? (i := 105) rfl))) (Or.inl (hw _ (List.mem_of_getElem? (i := 93) rfl))) (by decide) (t := .long) (t' := .boolean) (by decide) (by decide)))
    have F10 := E0.wr W7
    obtain ⟨T11, h11, X11, e11, W11, st11⟩ := putF X7 hx hZ hown (host := "") (Or.inl (hw _ (List.mem_of_getElem? (i := 104) rfl))) Via.refl e7 F9 F10 (Or.inl (hw _ (List.mem_of_getElem? (i := 105) rfl))) (hw _ (List.mem_of_getElem? (i := 1) rfl)) (ty := .long) (by decide) rfl rfl (g := (mkF m 18 #[.val (.ref o0), .val (.long key), .second, .val (.int hzv)] [(.long (0 : Int64)), (.ref o0)])) rfl rfl (hb hby d7_18)
    have Fw11 := F9.same W11
    have N11 := Fr.snoc X11 N7 geo
    have Z11 : n0 ≤ h11.size := Nat.le_trans Z7 (wr_le W11)
    have K11 := Keep.wr K7 W11 (Or.inl wtb)
    refine OFin.go st11 ?_
    show OFin p e below _ (T11.setTop (mkF m 21 #[.val (.ref o0), .val (.long key), .second, .val (.int hzv)] []))
    have S12 : ∀ t, Steps p.tables e below (T11.setTop (mkF m 35 #[.val (.ref o0), .val (.long key), .second, .val (.int hzv)] [(.int hzv)])) t → Steps p.tables e below (T11.setTop (mkF m 21 #[.val (.ref o0), .val (.long key), .second, .val (.int hzv)] [])) t := by
      intro t k
      show Steps p.tables e below (T11.setTop (mkF m 21 #[.val (.ref o0), .val (.long key), .second, .val (.int hzv)] [])) t
      refine XS.goto X11.here hx rfl (pc0 := 21) (pc' := 34) rfl (hb hby d7_21) (by decide) (by decide) ?_
      show Steps p.tables e below (T11.setTop (mkF m 34 #[.val (.ref o0), .val (.long key), .second, .val (.int hzv)] [])) t
      refine XS.iloadN X11.here hx rfl (hb hby d7_34) rfl ?_
      exact k
    refine OFin.go S12 ?_
    by_cases h13 : (hzv = (0 : Int32))
    · -- pc 35: (hzv = (0 : Int32))
      have S14 : ∀ t, Steps p.tables e below (T11.setTop (mkF m 48 #[.val (.ref o0), .val (.long key), .second, .val (.int hzv)] [])) t → Steps p.tables e below (T11.setTop (mkF m 35 #[.val (.ref o0), .val (.long key), .second, .val (.int hzv)] [(.int hzv)])) t := by
        intro t k
        show Steps p.tables e below (T11.setTop (mkF m 35 #[.val (.ref o0), .val (.long key), .second, .val (.int hzv)] [(.int hzv)])) t
        refine XS.ifYes X11.here hx rfl (pc0 := 35) (pc' := 48) rfl (hb hby d7_35) rfl ((if0 _ _).trans (teq h13).1) (by decide) (by decide) ?_
        exact k
      refine OFin.go S14 ?_
      have S15 : ∀ t, Steps p.tables e below (T11.setTop (mkF m 49 #[.val (.ref o0), .val (.long key), .second, .val (.int hzv)] [(.int hzv)])) t → Steps p.tables e below (T11.setTop (mkF m 48 #[.val (.ref o0), .val (.long key), .second, .val (.int hzv)] [])) t := by
        intro t k
        show Steps p.tables e below (T11.setTop (mkF m 48 #[.val (.ref o0), .val (.long key), .second, .val (.int hzv)] [])) t
        refine XS.iloadN X11.here hx rfl (hb hby d7_48) rfl ?_
        exact k
      refine OFin.go S15 ?_
      have F16 := F10.wr W11
      have F17 := Fp.other W7 (Or.inr (slot_ne (Or.inr (hw _ (List.mem_of_getElem? (i := 12) rfl))) (Or.inl (hw _ (List.mem_of_getElem? (i := 93) rfl))) (by decide) (t := (.array (.object "com/example/clockwrap/clockwrap/store/LongTable$Part"))) (t' := .boolean) (by decide) (by decide)))
      have F18 := F17.other W11 (Or.inr (slot_ne (Or.inr (hw _ (List.mem_of_getElem? (i := 12) rfl))) (Or.inl (hw _ (List.mem_of_getElem? (i := 105) rfl))) (by decide) (t := (.array (.object "com/example/clockwrap/clockwrap/store/LongTable$Part"))) (t' := .long) (by decide) (by decide)))
      have F19 := Fs.other W7 (Or.inr (slot_ne (Or.inl (hw _ (List.mem_of_getElem? (i := 81) rfl))) (Or.inl (hw _ (List.mem_of_getElem? (i := 93) rfl))) (by decide) (t := .int) (t' := .boolean) (by decide) (by decide)))
      have F20 := F19.other W11 (Or.inr (slot_ne (Or.inl (hw _ (List.mem_of_getElem? (i := 81) rfl))) (Or.inl (hw _ (List.mem_of_getElem? (i := 105) rfl))) (by decide) (t := .int) (t' := .long) (by decide) (by decide)))
      have F21 := Fw7.other W11 (Or.inr (slot_ne (Or.inl (hw _ (List.mem_of_getElem? (i := 93) rfl))) (Or.inl (hw _ (List.mem_of_getElem? (i := 105) rfl))) (by decide) (t := .boolean) (t' := .long) (by decide) (by decide)))
      have F22 := Vp.other W7 (Ne.symm nop)
      have F23 := F22.other W11 (Ne.symm nop)
      have F24 := FAM.keep hFM (Keep.of_wr W7) (allS (Or.inl rfl) all0)
      have F25 := FAM.keep F24 (Keep.of_wr W11) (allS (Or.inl rfl) all0)
      have F26 := Nat.le_trans hzl (wr_le W7)
      have F27 := Nat.le_trans F26 (wr_le W11)
      exact finZ X11 hx Bd.notSynchronized (t := .boolean) Bd.returns (by simp) (hb hby d7_49) rfl (by decide) (by decide) (by rw [e11]; exact ⟨_, Wl, rfl, N11, K11, ⟨pr, pa, FF, KK, VV, TT, 0, _, 0, zz, F16, F18, F20, F21, Fw11, F23, FAM.mono F25 (Nat.le_succ _), F27, nop, geo, ⟨wtb, wpr, wF, wW⟩, Or.inr rfl, fun _ => rfl, fun k v q => ((remM_l key).2 M k v (fun r => q (r.trans h2))).trans (hM k v q), own_rem0 h2⟩, fun x q => Or.inl q⟩)
    · -- pc 35: not (hzv = (0 : Int32))
      have S28 : ∀ t, Steps p.tables e below (T11.setTop (mkF m 38 #[.val (.ref o0), .val (.long key), .second, .val (.int hzv)] [])) t → Steps p.tables e below (T11.setTop (mkF m 35 #[.val (.ref o0), .val (.long key), .second, .val (.int hzv)] [(.int hzv)])) t := by
        intro t k
        show Steps p.tables e below (T11.setTop (mkF m 35 #[.val (.ref o0), .val (.long key), .second, .val (.int hzv)] [(.int hzv)])) t
        refine XS.ifNo X11.here hx rfl (hb hby d7_35) rfl ((if0 _ _).trans (feq h13).1) ?_
        exact k
      refine OFin.go S28 ?_
      have S29 : ∀ t, Steps p.tables e below (T11.setTop (mkF m 40 #[.val (.ref o0), .val (.long key), .second, .val (.int hzv)] [(.ref o0), (.ref o0)])) t → Steps p.tables e below (T11.setTop (mkF m 38 #[.val (.ref o0), .val (.long key), .second, .val (.int hzv)] [])) t := by
        intro t k
        show Steps p.tables e below (T11.setTop (mkF m 38 #[.val (.ref o0), .val (.long key), .second, .val (.int hzv)] [])) t
        refine XS.aloadN X11.here hx rfl (hb hby d7_38) rfl rfl ?_
        show Steps p.tables e below (T11.setTop (mkF m 39 #[.val (.ref o0), .val (.long key), .second, .val (.int hzv)] [(.ref o0)])) t
        refine XS.dup X11.here hx rfl (hb hby d7_39) rfl rfl ?_
        exact k
      refine OFin.go S29 ?_
      have F30 := Fs.other W7 (Or.inr (slot_ne (Or.inl (hw _ (List.mem_of_getElem? (i := 81) rfl))) (Or.inl (hw _ (List.mem_of_getElem? (i := 93) rfl))) (by decide) (t := .int) (t' := .boolean) (by decide) (by decide)))
      have F31 := F30.other W11 (Or.inr (slot_ne (Or.inl (hw _ (List.mem_of_getElem? (i := 81) rfl))) (Or.inl (hw _ (List.mem_of_getElem? (i := 105) rfl))) (by decide) (t := .int) (t' := .long) (by decide) (by decide)))
      obtain ⟨T32, X32, e32, st32⟩ := getF X11 hx hZ hown (host := "") (Or.inl (hw _ (List.mem_of_getElem? (i := 80) rfl))) Via.refl e11 F31 (g := (mkF m 40 #[.val (.ref o0), .val (.long key), .second, .val (.int hzv)] [(.ref o0), (.ref o0)])) rfl rfl (hb hby d7_40)
      refine OFin.go st32 ?_
      show OFin p e below _ (T32.setTop (mkF m 43 #[.val (.ref o0), .val (.long key), .second, .val (.int hzv)] [(.int szv), (.ref o0)]))
      have S33 : ∀ t, Steps p.tables e below (T32.setTop (mkF m 45 #[.val (.ref o0), .val (.long key), .second, .val (.int hzv)] [(.int (szv - (1 : Int32))), (.ref o0)])) t → Steps p.tables e below (T32.setTop (mkF m 43 #[.val (.ref o0), .val (.long key), .second, .val (.int hzv)] [(.int szv), (.ref o0)])) t := by
        intro t k
        show Steps p.tables e below (T32.setTop (mkF m 43 #[.val (.ref o0), .val (.long key), .second, .val (.int hzv)] [(.int szv), (.ref o0)])) t
        refine XS.iconst X32.here hx rfl (hb hby d7_43) ?_
        show Steps p.tables e below (T32.setTop (mkF m 44 #[.val (.ref o0), .val (.long key), .second, .val (.int hzv)] [(.int (1 : Int32)), (.int szv), (.ref o0)])) t
        refine XS.isub X32.here hx rfl (hb hby d7_44) rfl ?_
        exact k
      refine OFin.go S33 ?_
      have F34 := F10.wr W11
      obtain ⟨T35, h35, X35, e35, W35, st35⟩ := putF X32 hx hZ hown (host := "") (Or.inl (hw _ (List.mem_of_getElem? (i := 80) rfl))) Via.refl e32 F31 F34 (Or.inl (hw _ (List.mem_of_getElem? (i := 81) rfl))) (hw _ (List.mem_of_getElem? (i := 1) rfl)) (ty := .int) (by decide) rfl rfl (g := (mkF m 45 #[.val (.ref o0), .val (.long key), .second, .val (.int hzv)] [(.int (szv - (1 : Int32))), (.ref o0)])) rfl rfl (hb hby d7_45)
      have Fw35 := F31.same W35
      have N35 := Fr.snoc X35 N11 geo
      have Z35 : n0 ≤ h35.size := Nat.le_trans Z11 (wr_le W35)
      have K35 := Keep.wr K11 W35 (Or.inl wtb)
      refine OFin.go st35 ?_
      show OFin p e below _ (T35.setTop (mkF m 48 #[.val (.ref o0), .val (.long key), .second, .val (.int hzv)] []))
      have S36 : ∀ t, Steps p.tables e below (T35.setTop (mkF m 49 #[.val (.ref o0), .val (.long key), .second, .val (.int hzv)] [(.int hzv)])) t → Steps p.tables e below (T35.setTop (mkF m 48 #[.val (.ref o0), .val (.long key), .second, .val (.int hzv)] [])) t := by
        intro t k
        show Steps p.tables e below (T35.setTop (mkF m 48 #[.val (.ref o0), .val (.long key), .second, .val (.int hzv)] [])) t
        refine XS.iloadN X35.here hx rfl (hb hby d7_48) rfl ?_
        exact k
      refine OFin.go S36 ?_
      have F37 := F34.wr W35
      have F38 := Fp.other W7 (Or.inr (slot_ne (Or.inr (hw _ (List.mem_of_getElem? (i := 12) rfl))) (Or.inl (hw _ (List.mem_of_getElem? (i := 93) rfl))) (by decide) (t := (.array (.object "com/example/clockwrap/clockwrap/store/LongTable$Part"))) (t' := .boolean) (by decide) (by decide)))
      have F39 := F38.other W11 (Or.inr (slot_ne (Or.inr (hw _ (List.mem_of_getElem? (i := 12) rfl))) (Or.inl (hw _ (List.mem_of_getElem? (i := 105) rfl))) (by decide) (t := (.array (.object "com/example/clockwrap/clockwrap/store/LongTable$Part"))) (t' := .long) (by decide) (by decide)))
      have F40 := F39.other W35 (Or.inr (slot_ne (Or.inr (hw _ (List.mem_of_getElem? (i := 12) rfl))) (Or.inl (hw _ (List.mem_of_getElem? (i := 81) rfl))) (by decide) (t := (.array (.object "com/example/clockwrap/clockwrap/store/LongTable$Part"))) (t' := .int) (by decide) (by decide)))
      have F41 := Fw7.other W11 (Or.inr (slot_ne (Or.inl (hw _ (List.mem_of_getElem? (i := 93) rfl))) (Or.inl (hw _ (List.mem_of_getElem? (i := 105) rfl))) (by decide) (t := .boolean) (t' := .long) (by decide) (by decide)))
      have F42 := F41.other W35 (Or.inr (slot_ne (Or.inl (hw _ (List.mem_of_getElem? (i := 93) rfl))) (Or.inl (hw _ (List.mem_of_getElem? (i := 81) rfl))) (by decide) (t := .boolean) (t' := .int) (by decide) (by decide)))
      have F43 := Fw11.other W35 (Or.inr (slot_ne (Or.inl (hw _ (List.mem_of_getElem? (i := 105) rfl))) (Or.inl (hw _ (List.mem_of_getElem? (i := 81) rfl))) (by decide) (t := .long) (t' := .int) (by decide) (by decide)))
      have F44 := Vp.other W7 (Ne.symm nop)
      have F45 := F44.other W11 (Ne.symm nop)
      have F46 := F45.other W35 (Ne.symm nop)
      have F47 := FAM.keep hFM (Keep.of_wr W7) (allS (Or.inl rfl) all0)
      have F48 := FAM.keep F47 (Keep.of_wr W11) (allS (Or.inl rfl) all0)
      have F49 := FAM.keep F48 (Keep.of_wr W35) (allS (Or.inl rfl) all0)
      have F50 := Nat.le_trans hzl (wr_le W7)
      have F51 := Nat.le_trans F50 (wr_le W11)
      have F52 := Nat.le_trans F51 (wr_le W35)
      exact finZ X35 hx Bd.notSynchronized (t := .boolean) Bd.returns (by simp) (hb hby d7_49) rfl (by decide) (by decide) (by rw [e35]; exact ⟨_, Wl, rfl, N35, K35, ⟨pr, pa, FF, KK, VV, TT, 0, _, 0, zz, F37, F40, Fw35, F42, F43, F46, FAM.mono F49 (Nat.le_succ _), F52, nop, geo, ⟨wtb, wpr, wF, wW⟩, Or.inr rfl, fun _ => rfl, fun k v q => ((remM_l key).2 M k v (fun r => q (r.trans h2))).trans (hM k v q), own_rem0 h2⟩, fun x q => Or.inl q⟩)
  · -- pc 3: not (key = (0 : Int64))
    have S53 : ∀ t, Steps p.tables e below (s₁.setTop (mkF m 24 #[.val (.ref o0), .val (.long key), .second, .unset] [])) t → Steps p.tables e below (s₁.setTop (mkF m 3 #[.val (.ref o0), .val (.long key), .second, .unset] [(.int (lcmpW key (0 : Int64)))])) t := by
      intro t k
      show Steps p.tables e below (s₁.setTop (mkF m 3 #[.val (.ref o0), .val (.long key), .second, .unset] [(.int (lcmpW key (0 : Int64)))])) t
      refine XS.ifYes X0.here hx rfl (pc0 := 3) (pc' := 24) rfl (hb hby d7_3) rfl (lc_ne_t h2) (by decide) (by decide) ?_
      exact k
    refine OFin.go S53 ?_
    have S54 : ∀ t, Steps p.tables e below (s₁.setTop (mkF m 26 #[.val (.ref o0), .val (.long key), .second, .unset] [(.long key), (.ref o0)])) t → Steps p.tables e below (s₁.setTop (mkF m 24 #[.val (.ref o0), .val (.long key), .second, .unset] [])) t := by
      intro t k
      show Steps p.tables e below (s₁.setTop (mkF m 24 #[.val (.ref o0), .val (.long key), .second, .unset] [])) t
      refine XS.aloadN X0.here hx rfl (hb hby d7_24) rfl rfl ?_
      show Steps p.tables e below (s₁.setTop (mkF m 25 #[.val (.ref o0), .val (.long key), .second, .unset] [(.ref o0)])) t
      refine XS.lloadN X0.here hx rfl (hb hby d7_25) rfl ?_
      exact k
    refine OFin.go S54 ?_
    obtain ⟨_, T55, Lc55, X55, hQ55, st55⟩ := privQ X0 hx hZ (y := (⟨"com/example/clockwrap/clockwrap/store/LongTable", "part", "(J)Lcom/example/clockwrap/clockwrap/store/LongTable$Part;"⟩ : MethodName)) hown (hw _ (List.mem_of_getElem? (i := 43) rfl)) (hw _ (List.mem_of_getElem? (i := 44) rfl)) (hw _ (List.mem_of_getElem? (i := 2) rfl)) (hw _ (List.mem_of_getElem? (i := 46) rfl)) (hw _ (List.mem_of_getElem? (i := 45) rfl)) (hw _ (List.mem_of_getElem? (i := 1) rfl)) (by decide) E0 (argsL := [(.long key)]) (rest := []) (rm8 l Z a0 hw [] o0 key pr pa h0 n0 Z0 Fp Vp) (W := 0) (by decide) (by decide) e0 (g := (mkF m 26 #[.val (.ref o0), .val (.long key), .second, .unset] [(.long key), (.ref o0)])) rfl (by rw [hml]; rfl) (lenOf pd_5 rfl) rfl (by show 2 * 0 + _ ≤ _; exact Nat.le_of_eq rfl) (hb hby d7_26) (Nat.le_of_ble_eq_true rfl) (Nat.le_of_ble_eq_true rfl)
    obtain ⟨rfl, N55q, e55⟩ := hQ55
    have N55 := Fr.app N0 N55q
    refine OFin.go st55 ?_
    show OFin p e below _ (T55.setTop (mkF m 29 #[.val (.ref o0), .val (.long key), .second, .unset] [(.ref (pa (ix key)))]))
    have S56 : ∀ t, Steps p.tables e below (T55.setTop (mkF m 30 #[.val (.ref o0), .val (.long key), .second, .unset] [(.long key), (.ref (pa (ix key)))])) t → Steps p.tables e below (T55.setTop (mkF m 29 #[.val (.ref o0), .val (.long key), .second, .unset] [(.ref (pa (ix key)))])) t := by
      intro t k
      show Steps p.tables e below (T55.setTop (mkF m 29 #[.val (.ref o0), .val (.long key), .second, .unset] [(.ref (pa (ix key)))])) t
      refine XS.lloadN X55.here hx rfl (hb hby d7_29) rfl ?_
      exact k
    refine OFin.go S56 ?_
    obtain ⟨_, T57, Lc57, X57, hQ57, st57⟩ := virtQ X55 hx hZ (y := (⟨"com/example/clockwrap/clockwrap/store/LongTable$Part", "remove", "(J)Z"⟩ : MethodName)) hown (hw _ (List.mem_of_getElem? (i := 48) rfl)) (hw _ (List.mem_of_getElem? (i := 50) rfl)) (hw _ (List.mem_of_getElem? (i := 14) rfl)) (hw _ (List.mem_of_getElem? (i := 52) rfl)) (hw _ (List.mem_of_getElem? (i := 49) rfl)) (hw _ (List.mem_of_getElem? (i := 51) rfl)) (by decide) (hFM.1 _ (ix_lt key)).1.exa (argsL := [(.long key)]) (rest := []) (p_remove l Z a0 hw (pa (ix key)) key (FF (ix key)) (KK (ix key)) (VV (ix key)) (TT (ix key)) mm h0 n0 Z0 (hFM.1 _ (ix_lt key)).1 (fun x q => ((hFM.1 _ (ix_lt key)).2.2 x q).1) (hFM.1 _ (ix_lt key)).2.1 hmm h2) (W := 0) (by decide) (by decide) e55 (g := (mkF m 30 #[.val (.ref o0), .val (.long key), .second, .unset] [(.long key), (.ref (pa (ix key)))])) rfl (by rw [hml]; rfl) (lenOf pd_6 rfl) rfl (by show 2 * 0 + _ ≤ _; exact Nat.le_of_eq rfl) (hb hby d7_30) (Nat.le_of_ble_eq_true rfl) (Nat.le_of_ble_eq_true rfl)
    obtain ⟨bb, F', kf', vf', tk', rfl, N57q, K57q, hT', hs', hP', hR'⟩ := hQ57
    have Z57 : n0 ≤ T57.heap.size := Nat.le_trans Z0 K57q.1
    obtain ⟨M57, wU, hsb⟩ := own_B hFM (ix_lt key) hzl E0.lt Vp.lt Z0 K57q hT' hs' hP' wtb wpr wF wW
    have K57 := Keep.trans K0 K57q (fun x q => Or.inl (wF _ (ix_lt key) x q))
    have N57 := Fr.app N55 N57q
    refine OFin.go st57 ?_
    show OFin p e below _ (T57.setTop (mkF m 33 #[.val (.ref o0), .val (.long key), .second, .unset] [(.int bb)]))
    have S58 : ∀ t, Steps p.tables e below (T57.setTop (mkF m 35 #[.val (.ref o0), .val (.long key), .second, .val (.int bb)] [(.int bb)])) t → Steps p.tables e below (T57.setTop (mkF m 33 #[.val (.ref o0), .val (.long key), .second, .unset] [(.int bb)])) t := by
      intro t k
      show Steps p.tables e below (T57.setTop (mkF m 33 #[.val (.ref o0), .val (.long key), .second, .unset] [(.int bb)])) t
      refine XS.istoreN X57.here hx rfl (hb hby d7_33) rfl (l' := #[.val (.ref o0), .val (.long key), .second, .val (.int bb)]) rfl ?_
      show Steps p.tables e below (T57.setTop (mkF m 34 #[.val (.ref o0), .val (.long key), .second, .val (.int bb)] [])) t
      refine XS.iloadN X57.here hx rfl (hb hby d7_34) rfl ?_
      exact k
    refine OFin.go S58 ?_
    by_cases h59 : (bb = (0 : Int32))
    · -- pc 35: (bb = (0 : Int32))
      have S60 : ∀ t, Steps p.tables e below (T57.setTop (mkF m 48 #[.val (.ref o0), .val (.long key), .second, .val (.int bb)] [])) t → Steps p.tables e below (T57.setTop (mkF m 35 #[.val (.ref o0), .val (.long key), .second, .val (.int bb)] [(.int bb)])) t := by
        intro t k
        show Steps p.tables e below (T57.setTop (mkF m 35 #[.val (.ref o0), .val (.long key), .second, .val (.int bb)] [(.int bb)])) t
        refine XS.ifYes X57.here hx rfl (pc0 := 35) (pc' := 48) rfl (hb hby d7_35) rfl ((if0 _ _).trans (teq h59).1) (by decide) (by decide) ?_
        exact k
      refine OFin.go S60 ?_
      have S61 : ∀ t, Steps p.tables e below (T57.setTop (mkF m 49 #[.val (.ref o0), .val (.long key), .second, .val (.int bb)] [(.int bb)])) t → Steps p.tables e below (T57.setTop (mkF m 48 #[.val (.ref o0), .val (.long key), .second, .val (.int bb)] [])) t := by
        intro t k
        show Steps p.tables e below (T57.setTop (mkF m 48 #[.val (.ref o0), .val (.long key), .second, .val (.int bb)] [])) t
        refine XS.iloadN X57.here hx rfl (hb hby d7_48) rfl ?_
        exact k
      refine OFin.go S61 ?_
      have F62 := E0.keep K57q
      have F63 := Fp.keep K57q (fun q => ((hFM.1 _ (ix_lt key)).2.2 _ q).2.2.1 rfl)
      have F64 := Fs.keep K57q (fun q => ((hFM.1 _ (ix_lt key)).2.2 _ q).2.2.1 rfl)
      have F65 := Fh.keep K57q (fun q => ((hFM.1 _ (ix_lt key)).2.2 _ q).2.2.1 rfl)
      have F66 := Fz.keep K57q (fun q => ((hFM.1 _ (ix_lt key)).2.2 _ q).2.2.1 rfl)
      have F67 := Vp.keep K57q (fun q => ((hFM.1 _ (ix_lt key)).2.2 _ q).2.2.2 rfl)
      exact finZ X57 hx Bd.notSynchronized (t := .boolean) Bd.returns (by simp) (hb hby d7_49) rfl (by decide) (by decide) (by exact ⟨_, Wl ++ F', rfl, N57, K57, ⟨pr, pa, upd FF (ix key) F', upd KK (ix key) kf', upd VV (ix key) vf', upd TT (ix key) tk', hzv, _, zvv, _, F62, F63, F64, F65, F66, F67, M57, (Nat.le_refl T57.heap.size), nop, geo, wU, hz01, hz0, own_rel hM h2 (remM_l key) hR', fun v => ((remM_l key).2 M 0 v (fun r => h2 r.symm)).trans (hM0 v)⟩, hsb⟩)
    · -- pc 35: not (bb = (0 : Int32))
      have S68 : ∀ t, Steps p.tables e below (T57.setTop (mkF m 38 #[.val (.ref o0), .val (.long key), .second, .val (.int bb)] [])) t → Steps p.tables e below (T57.setTop (mkF m 35 #[.val (.ref o0), .val (.long key), .second, .val (.int bb)] [(.int bb)])) t := by
        intro t k
        show Steps p.tables e below (T57.setTop (mkF m 35 #[.val (.ref o0), .val (.long key), .second, .val (.int bb)] [(.int bb)])) t
        refine XS.ifNo X57.here hx rfl (hb hby d7_35) rfl ((if0 _ _).trans (feq h59).1) ?_
        exact k
      refine OFin.go S68 ?_
      have S69 : ∀ t, Steps p.tables e below (T57.setTop (mkF m 40 #[.val (.ref o0), .val (.long key), .second, .val (.int bb)] [(.ref o0), (.ref o0)])) t → Steps p.tables e below (T57.setTop (mkF m 38 #[.val (.ref o0), .val (.long key), .second, .val (.int bb)] [])) t := by
        intro t k
        show Steps p.tables e below (T57.setTop (mkF m 38 #[.val (.ref o0), .val (.long key), .second, .val (.int bb)] [])) t
        refine XS.aloadN X57.here hx rfl (hb hby d7_38) rfl rfl ?_
        show Steps p.tables e below (T57.setTop (mkF m 39 #[.val (.ref o0), .val (.long key), .second, .val (.int bb)] [(.ref o0)])) t
        refine XS.dup X57.here hx rfl (hb hby d7_39) rfl rfl ?_
        exact k
      refine OFin.go S69 ?_
      have F70 := Fs.keep K57q (fun q => ((hFM.1 _ (ix_lt key)).2.2 _ q).2.2.1 rfl)
      obtain ⟨T71, X71, e71, st71⟩ := getF X57 hx hZ hown (host := "") (Or.inl (hw _ (List.mem_of_getElem? (i := 80) rfl))) Via.refl rfl F70 (g := (mkF m 40 #[.val (.ref o0), .val (.long key), .second, .val (.int bb)] [(.ref o0), (.ref o0)])) rfl rfl (hb hby d7_40)
      refine OFin.go st71 ?_
      show OFin p e below _ (T71.setTop (mkF m 43 #[.val (.ref o0), .val (.long key), .second, .val (.int bb)] [(.int szv), (.ref o0)]))
      have S72 : ∀ t, Steps p.tables e below (T71.setTop (mkF m 45 #[.val (.ref o0), .val (.long key), .second, .val (.int bb)] [(.int (szv - (1 : Int32))), (.ref o0)])) t → Steps p.tables e below (T71.setTop (mkF m 43 #[.val (.ref o0), .val (.long key), .second, .val (.int bb)] [(.int szv), (.ref o0)])) t := by
        intro t k
        show Steps p.tables e below (T71.setTop (mkF m 43 #[.val (.ref o0), .val (.long key), .second, .val (.int bb)] [(.int szv), (.ref o0)])) t
        refine XS.iconst X71.here hx rfl (hb hby d7_43) ?_
        show Steps p.tables e below (T71.setTop (mkF m 44 #[.val (.ref o0), .val (.long key), .second, .val (.int bb)] [(.int (1 : Int32)), (.int szv), (.ref o0)])) t
        refine XS.isub X71.here hx rfl (hb hby d7_44) rfl ?_
        exact k
      refine OFin.go S72 ?_
      have F73 := E0.keep K57q
      obtain ⟨T74, h74, X74, e74, W74, st74⟩ := putF X71 hx hZ hown (host := "") (Or.inl (hw _ (List.mem_of_getElem? (i := 80) rfl))) Via.refl e71 F70 F73 (Or.inl (hw _ (List.mem_of_getElem? (i := 81) rfl))) (hw _ (List.mem_of_getElem? (i := 1) rfl)) (ty := .int) (by decide) rfl rfl (g := (mkF m 45 #[.val (.ref o0), .val (.long key), .second, .val (.int bb)] [(.int (szv - (1 : Int32))), (.ref o0)])) rfl rfl (hb hby d7_45)
      have Fw74 := F70.same W74
      have N74 := Fr.snoc X74 N57 geo
      have Z74 : n0 ≤ h74.size := Nat.le_trans Z57 (wr_le W74)
      have K74 := Keep.wr K57 W74 (Or.inl wtb)
      refine OFin.go st74 ?_
      show OFin p e below _ (T74.setTop (mkF m 48 #[.val (.ref o0), .val (.long key), .second, .val (.int bb)] []))
      have S75 : ∀ t, Steps p.tables e below (T74.setTop (mkF m 49 #[.val (.ref o0), .val (.long key), .second, .val (.int bb)] [(.int bb)])) t → Steps p.tables e below (T74.setTop (mkF m 48 #[.val (.ref o0), .val (.long key), .second, .val (.int bb)] [])) t := by
        intro t k
        show Steps p.tables e below (T74.setTop (mkF m 48 #[.val (.ref o0), .val (.long key), .second, .val (.int bb)] [])) t
        refine XS.iloadN X74.here hx rfl (hb hby d7_48) rfl ?_
        exact k
      refine OFin.go S75 ?_
      have F76 := F73.wr W74
      have F77 := Fp.keep K57q (fun q => ((hFM.1 _ (ix_lt key)).2.2 _ q).2.2.1 rfl)
      have F78 := F77.other W74 (Or.inr (slot_ne (Or.inr (hw _ (List.mem_of_getElem? (i := 12) rfl))) (Or.inl (hw _ (List.mem_of_getElem? (i := 81) rfl))) (by decide) (t := (.array (.object "com/example/clockwrap/clockwrap/store/LongTable$Part"))) (t' := .int) (by decide) (by decide)))
      have F79 := Fh.keep K57q (fun q => ((hFM.1 _ (ix_lt key)).2.2 _ q).2.2.1 rfl)
      have F80 := F79.other W74 (Or.inr (slot_ne (Or.inl (hw _ (List.mem_of_getElem? (i := 93) rfl))) (Or.inl (hw _ (List.mem_of_getElem? (i := 81) rfl))) (by decide) (t := .boolean) (t' := .int) (by decide) (by decide)))
      have F81 := Fz.keep K57q (fun q => ((hFM.1 _ (ix_lt key)).2.2 _ q).2.2.1 rfl)
      have F82 := F81.other W74 (Or.inr (slot_ne (Or.inl (hw _ (List.mem_of_getElem? (i := 105) rfl))) (Or.inl (hw _ (List.mem_of_getElem? (i := 81) rfl))) (by decide) (t := .long) (t' := .int) (by decide) (by decide)))
      have F83 := Vp.keep K57q (fun q => ((hFM.1 _ (ix_lt key)).2.2 _ q).2.2.2 rfl)
      have F84 := F83.other W74 (Ne.symm nop)
      have F85 := FAM.keep M57 (Keep.of_wr W74) (allS (Or.inl rfl) all0)
      have F86 := Nat.le_trans (Nat.le_refl T57.heap.size) (wr_le W74)
      exact finZ X74 hx Bd.notSynchronized (t := .boolean) Bd.returns (by simp) (hb hby d7_49) rfl (by decide) (by decide) (by rw [e74]; exact ⟨_, Wl ++ F', rfl, N74, K74, ⟨pr, pa, upd FF (ix key) F', upd KK (ix key) kf', upd VV (ix key) vf', upd TT (ix key) tk', hzv, _, zvv, _, F76, F78, Fw74, F80, F82, F84, F85, F86, nop, geo, wU, hz01, hz0, own_rel hM h2 (remM_l key) hR', fun v => ((remM_l key).2 M 0 v (fun r => h2 r.symm)).trans (hM0 v)⟩, hsb⟩)
theorem ef_rm17 (m : MethodId) (o0 : Addr) (key : Int64) (val : Int64) : entryFrame m #[(.ref o0), (.long key), (.long val)] 6 = mkF m 0 #[.val (.ref o0), .val (.long key), .second, .val (.long val), .second, .unset] [] := by first | (simp [entryFrame, mkF, argsToLocals, Value.category]; done) | rfl
def Q_rm17 (Z : State) (o0 : Addr) (key : Int64) (val : Int64) (Wl : List Addr) (mm : Nat) (M : Int64 → Int64 → Prop) (h0 : Heap) (n0 : Nat) (v : Option Value) (h : Heap) (L : List Loc) : Prop := ∃ (Wl' : List Addr), v = none ∧ Fr n0 L ∧ Keep h0 h Wl ∧ TBL Z h n0 o0 Wl' (mm + 1) (putM key val M) ∧ ∀ x ∈ Wl', x ∈ Wl ∨ h0.size ≤ x
theorem d17_0 : decode prog_32_method_5_code 0 = .ok (.lload_n 1, 1) := by decide +kernel
theorem d17_1 : decode prog_32_method_5_code 1 = .ok (.lconst 0, 1) := by decide +kernel
theorem d17_2 : decode prog_32_method_5_code 2 = .ok (.lcmp, 1) := by decide +kernel
theorem d17_3 : decode prog_32_method_5_code 3 = .ok (.ifCond .ne 30, 3) := by decide +kernel
theorem d17_6 : decode prog_32_method_5_code 6 = .ok (.aload_n 0, 1) := by decide +kernel
theorem d17_7 : decode prog_32_method_5_code 7 = .ok (.getfield 20, 3) := by decide +kernel
theorem d17_10 : decode prog_32_method_5_code 10 = .ok (.ifCond .ne 7, 3) := by decide +kernel
theorem d17_13 : decode prog_32_method_5_code 13 = .ok (.iconst 1, 1) := by decide +kernel
theorem d17_14 : decode prog_32_method_5_code 14 = .ok (.goto 4, 3) := by decide +kernel
theorem d17_17 : decode prog_32_method_5_code 17 = .ok (.iconst 0, 1) := by decide +kernel
theorem d17_18 : decode prog_32_method_5_code 18 = .ok (.istore 5, 2) := by decide +kernel
theorem d17_20 : decode prog_32_method_5_code 20 = .ok (.aload_n 0, 1) := by decide +kernel
theorem d17_21 : decode prog_32_method_5_code 21 = .ok (.iconst 1, 1) := by decide +kernel
theorem d17_22 : decode prog_32_method_5_code 22 = .ok (.putfield 20, 3) := by decide +kernel
theorem d17_25 : decode prog_32_method_5_code 25 = .ok (.aload_n 0, 1) := by decide +kernel
theorem d17_26 : decode prog_32_method_5_code 26 = .ok (.lload_n 3, 1) := by decide +kernel
theorem d17_27 : decode prog_32_method_5_code 27 = .ok (.putfield 35, 3) := by decide +kernel
theorem d17_30 : decode prog_32_method_5_code 30 = .ok (.goto 15, 3) := by decide +kernel
theorem d17_45 : decode prog_32_method_5_code 45 = .ok (.iload 5, 2) := by decide +kernel
theorem d17_47 : decode prog_32_method_5_code 47 = .ok (.ifCond .eq 13, 3) := by decide +kernel
theorem d17_50 : decode prog_32_method_5_code 50 = .ok (.aload_n 0, 1) := by decide +kernel
theorem d17_51 : decode prog_32_method_5_code 51 = .ok (.dup, 1) := by decide +kernel
theorem d17_52 : decode prog_32_method_5_code 52 = .ok (.getfield 16, 3) := by decide +kernel
theorem d17_55 : decode prog_32_method_5_code 55 = .ok (.iconst 1, 1) := by decide +kernel
theorem d17_56 : decode prog_32_method_5_code 56 = .ok (.iadd, 1) := by decide +kernel
theorem d17_57 : decode prog_32_method_5_code 57 = .ok (.putfield 16, 3) := by decide +kernel
theorem d17_60 : decode prog_32_method_5_code 60 = .ok (.return_, 1) := by decide +kernel
theorem d17_33 : decode prog_32_method_5_code 33 = .ok (.aload_n 0, 1) := by decide +kernel
theorem d17_34 : decode prog_32_method_5_code 34 = .ok (.lload_n 1, 1) := by decide +kernel
theorem d17_35 : decode prog_32_method_5_code 35 = .ok (.invokevirtual 24, 3) := by decide +kernel
theorem d17_38 : decode prog_32_method_5_code 38 = .ok (.lload_n 1, 1) := by decide +kernel
theorem d17_39 : decode prog_32_method_5_code 39 = .ok (.lload_n 3, 1) := by decide +kernel
theorem pd_7 : parseMethodDescriptor "(JJ)Z" = some ⟨[.long, .long], some .boolean⟩ := by decide +kernel
theorem d17_40 : decode prog_32_method_5_code 40 = .ok (.invokevirtual 39, 3) := by decide +kernel
theorem d17_43 : decode prog_32_method_5_code 43 = .ok (.istore 5, 2) := by decide +kernel
set_option maxRecDepth 65536 in
set_option maxHeartbeats 40000000 in
theorem rm17 (l : Launch) (Z : State) (a0 : Array Value) (hw : ∀ d ∈ tables_1, d.before a0 Z = true) (ws : List Jvm.Cond) (o0 : Addr) (key : Int64) (val : Int64) (Wl : List Addr) (mm : Nat) (M : Int64 → Int64 → Prop) (h0 : Heap) (n0 : Nat) (Z0 : n0 ≤ h0.size) (hT : TBL Z h0 n0 o0 Wl mm M) (hmm : mm < 10) :
    MetFree l (⟨"com/example/clockwrap/clockwrap/store/LongTable", "put", "(JJ)V"⟩ : MethodName) (head1 (Jvm.Cond.code (⟨"com/example/clockwrap/clockwrap/store/LongTable", "put", "(JJ)V"⟩ : MethodName) prog_32_method_5_code 6 none :: ws) ({ frames := 3, cells := 1, slots := 16, locals := 60 } : Room)) (fun a U => a = #[(.ref o0), (.long key), (.long val)] ∧ Z.Warmed39 U.vm ∧ U.heap = h0) (fun _ _ _ _ _ => True) (fun _ U o U' => ∃ v L, o = .returned v ∧ (Q_rm17 Z o0 key val Wl mm M h0 n0) v U'.heap L ∧ FrameEnd U o U' L ({ frames := 3, cells := 1, slots := 16, locals := 60 } : Room).cells ({ frames := 3, cells := 1, slots := 16, locals := 60 } : Room).slots) := by
  refine MetFree.of_bodySF (plainFor_of_name pn_2) hisR ?_
  intro p e s m args below meth c s₁ Bd hml0 hP hK
  obtain ⟨rfl, hZ, hh⟩ := hP
  have hx := Bd.exec
  have hby := Bd.bytes
  have hml : c.maxLocals = 6 := hml0
  have hown : s.vm.findClass "com/example/clockwrap/clockwrap/store/LongTable" = some m.cls := findClass_of_methodNamed Bd.named
  have hnm := (name_of_methodNamed Bd.named Bd.method).1
  have X0 : Stand p l e ({ frames := 3, cells := 1, slots := 16, locals := 60 } : Room) s m #[(.ref o0), (.long key), (.long val)] below meth c s₁ [] 0 0 := Stand.of_body Bd
  have e0 : s₁.heap = h0 := by rw [← hh, Bd.state]; rfl
  have N0 := Fr.nil n0
  show OFin p e below (ORet (Q_rm17 Z o0 key val Wl mm M h0 n0) s ({ frames := 3, cells := 1, slots := 16, locals := 60 } : Room).cells ({ frames := 3, cells := 1, slots := 16, locals := 60 } : Room).slots) (s₁.setTop (entryFrame m #[(.ref o0), (.long key), (.long val)] 6))
  refine OFin.go (fun t k => castTop (ef_rm17 m o0 key val) k) ?_
  obtain ⟨pr, pa, FF, KK, VV, TT, hzv, szv, zvv, zz, E0, Fp, Fs, Fh, Fz, Vp, hFM, hzl, nop, geo, ⟨wtb, wpr, wF, wW⟩, hz01, hz0, hM, hM0⟩ := hT
  have K0 := Keep.refl h0 Wl
  show OFin p e below (ORet (Q_rm17 Z o0 key val Wl mm M h0 n0) s ({ frames := 3, cells := 1, slots := 16, locals := 60 } : Room).cells ({ frames := 3, cells := 1, slots := 16, locals := 60 } : Room).slots) (s₁.setTop (mkF m 0 #[.val (.ref o0), .val (.long key), .second, .val (.long val), .second, .unset] []))
  have S1 : ∀ t, Steps p.tables e below (s₁.setTop (mkF m 3 #[.val (.ref o0), .val (.long key), .second, .val (.long val), .second, .unset] [(.int (lcmpW key (0 : Int64)))])) t → Steps p.tables e below (s₁.setTop (mkF m 0 #[.val (.ref o0), .val (.long key), .second, .val (.long val), .second, .unset] [])) t := by
    intro t k
    show Steps p.tables e below (s₁.setTop (mkF m 0 #[.val (.ref o0), .val (.long key), .second, .val (.long val), .second, .unset] [])) t
    refine XS.lloadN X0.here hx rfl (hb hby d17_0) rfl ?_
    show Steps p.tables e below (s₁.setTop (mkF m 1 #[.val (.ref o0), .val (.long key), .second, .val (.long val), .second, .unset] [(.long key)])) t
    refine XS.lconst X0.here hx rfl (hb hby d17_1) ?_
    show Steps p.tables e below (s₁.setTop (mkF m 2 #[.val (.ref o0), .val (.long key), .second, .val (.long val), .second, .unset] [(.long (0 : Int64)), (.long key)])) t
    refine XS.lcmp X0.here hx rfl (hb hby d17_2) rfl ?_
    exact k
  refine OFin.go S1 ?_
  by_cases h2 : (key = (0 : Int64))
  · -- pc 3: (key = (0 : Int64))
    have S3 : ∀ t, Steps p.tables e below (s₁.setTop (mkF m 6 #[.val (.ref o0), .val (.long key), .second, .val (.long val), .second, .unset] [])) t → Steps p.tables e below (s₁.setTop (mkF m 3 #[.val (.ref o0), .val (.long key), .second, .val (.long val), .second, .unset] [(.int (lcmpW key (0 : Int64)))])) t := by
      intro t k
      show Steps p.tables e below (s₁.setTop (mkF m 3 #[.val (.ref o0), .val (.long key), .second, .val (.long val), .second, .unset] [(.int (lcmpW key (0 : Int64)))])) t
      refine XS.ifNo X0.here hx rfl (hb hby d17_3) rfl (lc_ne_f h2) ?_
      exact k
    refine OFin.go S3 ?_
    have S4 : ∀ t, Steps p.tables e below (s₁.setTop (mkF m 7 #[.val (.ref o0), .val (.long key), .second, .val (.long val), .second, .unset] [(.ref o0)])) t → Steps p.tables e below (s₁.setTop (mkF m 6 #[.val (.ref o0), .val (.long key), .second, .val (.long val), .second, .unset] [])) t := by
      intro t k
      show Steps p.tables e below (s₁.setTop (mkF m 6 #[.val (.ref o0), .val (.long key), .second, .val (.long val), .second, .unset] [])) t
      refine XS.aloadN X0.here hx rfl (hb hby d17_6) rfl rfl ?_
      exact k
    refine OFin.go S4 ?_
    obtain ⟨T5, X5, e5, st5⟩ := getF X0 hx hZ hown (host := "") (Or.inl (hw _ (List.mem_of_getElem? (i := 92) rfl))) Via.refl e0 Fh (g := (mkF m 7 #[.val (.ref o0), .val (.long key), .second, .val (.long val), .second, .unset] [(.ref o0)])) rfl rfl (hb hby d17_7)
    refine OFin.go st5 ?_
    show OFin p e below _ (T5.setTop (mkF m 10 #[.val (.ref o0), .val (.long key), .second, .val (.long val), .second, .unset] [(.int hzv)]))
    have J6 : ∀ t, Steps p.tables e below (T5.setTop (mkF m 18 #[.val (.ref o0), .val (.long key), .second, .val (.long val), .second, .unset] [(.int (bi (hzv = (0 : Int32))))])) t → Steps p.tables e below (T5.setTop (mkF m 10 #[.val (.ref o0), .val (.long key), .second, .val (.long val), .second, .unset] [(.int hzv)])) t := by
      intro t k
      show Steps p.tables e below (T5.setTop (mkF m 10 #[.val (.ref o0), .val (.long key), .second, .val (.long val), .second, .unset] [(.int hzv)])) t
      by_cases h7 : (hzv = (0 : Int32))
      · refine XS.ifNo X5.here hx rfl (hb hby d17_10) rfl ((if0 _ _).trans (teq h7).2) ?_
        show Steps p.tables e below (T5.setTop (mkF m 13 #[.val (.ref o0), .val (.long key), .second, .val (.long val), .second, .unset] [])) t
        refine XS.iconst X5.here hx rfl (hb hby d17_13) ?_
        show Steps p.tables e below (T5.setTop (mkF m 14 #[.val (.ref o0), .val (.long key), .second, .val (.long val), .second, .unset] [(.int (1 : Int32))])) t
        refine XS.goto X5.here hx rfl (pc0 := 14) (pc' := 18) rfl (hb hby d17_14) (by decide) (by decide) ?_
        show Steps p.tables e below (T5.setTop (mkF m 18 #[.val (.ref o0), .val (.long key), .second, .val (.long val), .second, .unset] [(.int (1 : Int32))])) t
        exact (castTop (congrArg (fun zq_ => (mkF m 18 #[.val (.ref o0), .val (.long key), .second, .val (.long val), .second, .unset] [(.int zq_)])) (bi_t h7).symm) k)
      · refine XS.ifYes X5.here hx rfl (pc0 := 10) (pc' := 17) rfl (hb hby d17_10) rfl ((if0 _ _).trans (feq h7).2) (by decide) (by decide) ?_
        show Steps p.tables e below (T5.setTop (mkF m 17 #[.val (.ref o0), .val (.long key), .second, .val (.long val), .second, .unset] [])) t
        refine XS.iconst X5.here hx rfl (hb hby d17_17) ?_
        show Steps p.tables e below (T5.setTop (mkF m 18 #[.val (.ref o0), .val (.long key), .second, .val (.long val), .second, .unset] [(.int (0 : Int32))])) t
        exact (castTop (congrArg (fun zq_ => (mkF m 18 #[.val (.ref o0), .val (.long key), .second, .val (.long val), .second, .unset] [(.int zq_)])) (bi_f h7).symm) k)
    refine OFin.go J6 ?_
    have S8 : ∀ t, Steps p.tables e below (T5.setTop (mkF m 22 #[.val (.ref o0), .val (.long key), .second, .val (.long val), .second, .val (.int (bi (hzv = (0 : Int32))))] [(.int (1 : Int32)), (.ref o0)])) t → Steps p.tables e below (T5.setTop (mkF m 18 #[.val (.ref o0), .val (.long key), .second, .val (.long val), .second, .unset] [(.int (bi (hzv = (0 : Int32))))])) t := by
      intro t k
      show Steps p.tables e below (T5.setTop (mkF m 18 #[.val (.ref o0), .val (.long key), .second, .val (.long val), .second, .unset] [(.int (bi (hzv = (0 : Int32))))])) t
      refine XS.istore X5.here hx rfl (hb hby d17_18) rfl (l' := #[.val (.ref o0), .val (.long key), .second, .val (.long val), .second, .val (.int (bi (hzv = (0 : Int32))))]) rfl ?_
      show Steps p.tables e below (T5.setTop (mkF m 20 #[.val (.ref o0), .val (.long key), .second, .val (.long val), .second, .val (.int (bi (hzv = (0 : Int32))))] [])) t
      refine XS.aloadN X5.here hx rfl (hb hby d17_20) rfl rfl ?_
      show Steps p.tables e below (T5.setTop (mkF m 21 #[.val (.ref o0), .val (.long key), .second, .val (.long val), .second, .val (.int (bi (hzv = (0 : Int32))))] [(.ref o0)])) t
      refine XS.iconst X5.here hx rfl (hb hby d17_21) ?_
      exact k
    refine OFin.go S8 ?_
    obtain ⟨T9, h9, X9, e9, W9, st9⟩ := putF X5 hx hZ hown (host := "") (Or.inl (hw _ (List.mem_of_getElem? (i := 92) rfl))) Via.refl e5 Fh E0 (Or.inl (hw _ (List.mem_of_getElem? (i := 93) rfl))) (hw _ (List.mem_of_getElem? (i := 1) rfl)) (ty := .boolean) (by decide) rfl rfl (g := (mkF m 22 #[.val (.ref o0), .val (.long key), .second, .val (.long val), .second, .val (.int (bi (hzv = (0 : Int32))))] [(.int (1 : Int32)), (.ref o0)])) rfl rfl (hb hby d17_22)
    have Fw9 := Fh.same W9
    have N9 := Fr.snoc X9 N0 geo
    have Z9 : n0 ≤ h9.size := Nat.le_trans Z0 (wr_le W9)
    have K9 := Keep.wr K0 W9 (Or.inl wtb)
    refine OFin.go st9 ?_
    show OFin p e below _ (T9.setTop (mkF m 25 #[.val (.ref o0), .val (.long key), .second, .val (.long val), .second, .val (.int (bi (hzv = (0 : Int32))))] []))
    have S10 : ∀ t, Steps p.tables e below (T9.setTop (mkF m 27 #[.val (.ref o0), .val (.long key), .second, .val (.long val), .second, .val (.int (bi (hzv = (0 : Int32))))] [(.long val), (.ref o0)])) t → Steps p.tables e below (T9.setTop (mkF m 25 #[.val (.ref o0), .val (.long key), .second, .val (.long val), .second, .val (.int (bi (hzv = (0 : Int32))))] [])) t := by
      intro t k
      show Steps p.tables e below (T9.setTop (mkF m 25 #[.val (.ref o0), .val (.long key), .second, .val (.long val), .second, .val (.int (bi (hzv = (0 : Int32))))] [])) t
      refine XS.aloadN X9.here hx rfl (hb hby d17_25) rfl rfl ?_
      show Steps p.tables e below (T9.setTop (mkF m 26 #[.val (.ref o0), .val (.long key), .second, .val (.long val), .second, .val (.int (bi (hzv = (0 : Int32))))] [(.ref o0)])) t
      refine XS.lloadN X9.here hx rfl (hb hby d17_26) rfl ?_
      exact k
    refine OFin.go S10 ?_
    have F11 := Fz.other W9 (Or.inr (slot_ne (Or.inl (hw _ (List.mem_of_getElem? (i := 105) rfl))) (Or.inl (hw _ (List.mem_of_getElem? (i := 93) rfl))) (by decide) (t := .long) (t' := .boolean) (by decide) (by decide)))
    have F12 := E0.wr W9
    obtain ⟨T13, h13, X13, e13, W13, st13⟩ := putF X9 hx hZ hown (host := "") (Or.inl (hw _ (List.mem_of_getElem? (i := 104) rfl))) Via.refl e9 F11 F12 (Or.inl (hw _ (List.mem_of_getElem? (i := 105) rfl))) (hw _ (List.mem_of_getElem? (i := 1) rfl)) (ty := .long) (by decide) rfl rfl (g := (mkF m 27 #[.val (.ref o0), .val (.long key), .second, .val (.long val), .second, .val (.int (bi (hzv = (0 : Int32))))] [(.long val), (.ref o0)])) rfl rfl (hb hby d17_27)
    have Fw13 := F11.same W13
    have N13 := Fr.snoc X13 N9 geo
    have Z13 : n0 ≤ h13.size := Nat.le_trans Z9 (wr_le W13)
    have K13 := Keep.wr K9 W13 (Or.inl wtb)
    refine OFin.go st13 ?_
    show OFin p e below _ (T13.setTop (mkF m 30 #[.val (.ref o0), .val (.long key), .second, .val (.long val), .second, .val (.int (bi (hzv = (0 : Int32))))] []))
    have S14 : ∀ t, Steps p.tables e below (T13.setTop (mkF m 47 #[.val (.ref o0), .val (.long key), .second, .val (.long val), .second, .val (.int (bi (hzv = (0 : Int32))))] [(.int (bi (hzv = (0 : Int32))))])) t → Steps p.tables e below (T13.setTop (mkF m 30 #[.val (.ref o0), .val (.long key), .second, .val (.long val), .second, .val (.int (bi (hzv = (0 : Int32))))] [])) t := by
      intro t k
      show Steps p.tables e below (T13.setTop (mkF m 30 #[.val (.ref o0), .val (.long key), .second, .val (.long val), .second, .val (.int (bi (hzv = (0 : Int32))))] [])) t
      refine XS.goto X13.here hx rfl (pc0 := 30) (pc' := 45) rfl (hb hby d17_30) (by decide) (by decide) ?_
      show Steps p.tables e below (T13.setTop (mkF m 45 #[.val (.ref o0), .val (.long key), .second, .val (.long val), .second, .val (.int (bi (hzv = (0 : Int32))))] [])) t
      refine XS.iload X13.here hx rfl (hb hby d17_45) rfl ?_
      exact k
    refine OFin.go S14 ?_
    by_cases h15 : (hzv = (0 : Int32))
    · -- pc 47: (hzv = (0 : Int32))
      have S16 : ∀ t, Steps p.tables e below (T13.setTop (mkF m 50 #[.val (.ref o0), .val (.long key), .second, .val (.long val), .second, .val (.int (bi (hzv = (0 : Int32))))] [])) t → Steps p.tables e below (T13.setTop (mkF m 47 #[.val (.ref o0), .val (.long key), .second, .val (.long val), .second, .val (.int (bi (hzv = (0 : Int32))))] [(.int (bi (hzv = (0 : Int32))))])) t := by
        intro t k
        show Steps p.tables e below (T13.setTop (mkF m 47 #[.val (.ref o0), .val (.long key), .second, .val (.long val), .second, .val (.int (bi (hzv = (0 : Int32))))] [(.int (bi (hzv = (0 : Int32))))])) t
        refine XS.ifNo X13.here hx rfl (hb hby d17_47) rfl (bi_eq_f h15) ?_
        exact k
      refine OFin.go S16 ?_
      have S17 : ∀ t, Steps p.tables e below (T13.setTop (mkF m 52 #[.val (.ref o0), .val (.long key), .second, .val (.long val), .second, .val (.int (bi (hzv = (0 : Int32))))] [(.ref o0), (.ref o0)])) t → Steps p.tables e below (T13.setTop (mkF m 50 #[.val (.ref o0), .val (.long key), .second, .val (.long val), .second, .val (.int (bi (hzv = (0 : Int32))))] [])) t := by
        intro t k
        show Steps p.tables e below (T13.setTop (mkF m 50 #[.val (.ref o0), .val (.long key), .second, .val (.long val), .second, .val (.int (bi (hzv = (0 : Int32))))] [])) t
        refine XS.aloadN X13.here hx rfl (hb hby d17_50) rfl rfl ?_
        show Steps p.tables e below (T13.setTop (mkF m 51 #[.val (.ref o0), .val (.long key), .second, .val (.long val), .second, .val (.int (bi (hzv = (0 : Int32))))] [(.ref o0)])) t
        refine XS.dup X13.here hx rfl (hb hby d17_51) rfl rfl ?_
        exact k
      refine OFin.go S17 ?_
      have F18 := Fs.other W9 (Or.inr (slot_ne (Or.inl (hw _ (List.mem_of_getElem? (i := 81) rfl))) (Or.inl (hw _ (List.mem_of_getElem? (i := 93) rfl))) (by decide) (t := .int) (t' := .boolean) (by decide) (by decide)))
      have F19 := F18.other W13 (Or.inr (slot_ne (Or.inl (hw _ (List.mem_of_getElem? (i := 81) rfl))) (Or.inl (hw _ (List.mem_of_getElem? (i := 105) rfl))) (by decide) (t := .int) (t' := .long) (by decide) (by decide)))
      obtain ⟨T20, X20, e20, st20⟩ := getF X13 hx hZ hown (host := "") (Or.inl (hw _ (List.mem_of_getElem? (i := 80) rfl))) Via.refl e13 F19 (g := (mkF m 52 #[.val (.ref o0), .val (.long key), .second, .val (.long val), .second, .val (.int (bi (hzv = (0 : Int32))))] [(.ref o0), (.ref o0)])) rfl rfl (hb hby d17_52)
      refine OFin.go st20 ?_
      show OFin p e below _ (T20.setTop (mkF m 55 #[.val (.ref o0), .val (.long key), .second, .val (.long val), .second, .val (.int (bi (hzv = (0 : Int32))))] [(.int szv), (.ref o0)]))
      have S21 : ∀ t, Steps p.tables e below (T20.setTop (mkF m 57 #[.val (.ref o0), .val (.long key), .second, .val (.long val), .second, .val (.int (bi (hzv = (0 : Int32))))] [(.int (szv + (1 : Int32))), (.ref o0)])) t → Steps p.tables e below (T20.setTop (mkF m 55 #[.val (.ref o0), .val (.long key), .second, .val (.long val), .second, .val (.int (bi (hzv = (0 : Int32))))] [(.int szv), (.ref o0)])) t := by
        intro t k
        show Steps p.tables e below (T20.setTop (mkF m 55 #[.val (.ref o0), .val (.long key), .second, .val (.long val), .second, .val (.int (bi (hzv = (0 : Int32))))] [(.int szv), (.ref o0)])) t
        refine XS.iconst X20.here hx rfl (hb hby d17_55) ?_
        show Steps p.tables e below (T20.setTop (mkF m 56 #[.val (.ref o0), .val (.long key), .second, .val (.long val), .second, .val (.int (bi (hzv = (0 : Int32))))] [(.int (1 : Int32)), (.int szv), (.ref o0)])) t
        refine XS.iadd X20.here hx rfl (hb hby d17_56) rfl ?_
        exact k
      refine OFin.go S21 ?_
      have F22 := F12.wr W13
      obtain ⟨T23, h23, X23, e23, W23, st23⟩ := putF X20 hx hZ hown (host := "") (Or.inl (hw _ (List.mem_of_getElem? (i := 80) rfl))) Via.refl e20 F19 F22 (Or.inl (hw _ (List.mem_of_getElem? (i := 81) rfl))) (hw _ (List.mem_of_getElem? (i := 1) rfl)) (ty := .int) (by decide) rfl rfl (g := (mkF m 57 #[.val (.ref o0), .val (.long key), .second, .val (.long val), .second, .val (.int (bi (hzv = (0 : Int32))))] [(.int (szv + (1 : Int32))), (.ref o0)])) rfl rfl (hb hby d17_57)
      have Fw23 := F19.same W23
      have N23 := Fr.snoc X23 N13 geo
      have Z23 : n0 ≤ h23.size := Nat.le_trans Z13 (wr_le W23)
      have K23 := Keep.wr K13 W23 (Or.inl wtb)
      refine OFin.go st23 ?_
      show OFin p e below _ (T23.setTop (mkF m 60 #[.val (.ref o0), .val (.long key), .second, .val (.long val), .second, .val (.int (bi (hzv = (0 : Int32))))] []))
      have F24 := F22.wr W23
      have F25 := Fp.other W9 (Or.inr (slot_ne (Or.inr (hw _ (List.mem_of_getElem? (i := 12) rfl))) (Or.inl (hw _ (List.mem_of_getElem? (i := 93) rfl))) (by decide) (t := (.array (.object "com/example/clockwrap/clockwrap/store/LongTable$Part"))) (t' := .boolean) (by decide) (by decide)))
      have F26 := F25.other W13 (Or.inr (slot_ne (Or.inr (hw _ (List.mem_of_getElem? (i := 12) rfl))) (Or.inl (hw _ (List.mem_of_getElem? (i := 105) rfl))) (by decide) (t := (.array (.object "com/example/clockwrap/clockwrap/store/LongTable$Part"))) (t' := .long) (by decide) (by decide)))
      have F27 := F26.other W23 (Or.inr (slot_ne (Or.inr (hw _ (List.mem_of_getElem? (i := 12) rfl))) (Or.inl (hw _ (List.mem_of_getElem? (i := 81) rfl))) (by decide) (t := (.array (.object "com/example/clockwrap/clockwrap/store/LongTable$Part"))) (t' := .int) (by decide) (by decide)))
      have F28 := Fw9.other W13 (Or.inr (slot_ne (Or.inl (hw _ (List.mem_of_getElem? (i := 93) rfl))) (Or.inl (hw _ (List.mem_of_getElem? (i := 105) rfl))) (by decide) (t := .boolean) (t' := .long) (by decide) (by decide)))
      have F29 := F28.other W23 (Or.inr (slot_ne (Or.inl (hw _ (List.mem_of_getElem? (i := 93) rfl))) (Or.inl (hw _ (List.mem_of_getElem? (i := 81) rfl))) (by decide) (t := .boolean) (t' := .int) (by decide) (by decide)))
      have F30 := Fw13.other W23 (Or.inr (slot_ne (Or.inl (hw _ (List.mem_of_getElem? (i := 105) rfl))) (Or.inl (hw _ (List.mem_of_getElem? (i := 81) rfl))) (by decide) (t := .long) (t' := .int) (by decide) (by decide)))
      have F31 := Vp.other W9 (Ne.symm nop)
      have F32 := F31.other W13 (Ne.symm nop)
      have F33 := F32.other W23 (Ne.symm nop)
      have F34 := FAM.keep hFM (Keep.of_wr W9) (allS (Or.inl rfl) all0)
      have F35 := FAM.keep F34 (Keep.of_wr W13) (allS (Or.inl rfl) all0)
      have F36 := FAM.keep F35 (Keep.of_wr W23) (allS (Or.inl rfl) all0)
      have F37 := Nat.le_trans hzl (wr_le W9)
      have F38 := Nat.le_trans F37 (wr_le W13)
      have F39 := Nat.le_trans F38 (wr_le W23)
      exact finV X23 hx Bd.notSynchronized Bd.returns (hb hby d17_60) (by decide) (by decide) (by rw [e23]; exact ⟨Wl, rfl, N23, K23, ⟨pr, pa, FF, KK, VV, TT, 1, _, val, zz, F24, F27, Fw23, F29, F30, F33, FAM.mono F36 (Nat.le_succ _), F39, nop, geo, ⟨wtb, wpr, wF, wW⟩, Or.inl rfl, fun q => absurd q (by decide), fun k v q => ((putM_l key val).2 M k v (fun r => q (r.trans h2))).trans (hM k v q), own_put0 h2⟩, fun x q => Or.inl q⟩)
    · -- pc 47: not (hzv = (0 : Int32))
      have S40 : ∀ t, Steps p.tables e below (T13.setTop (mkF m 60 #[.val (.ref o0), .val (.long key), .second, .val (.long val), .second, .val (.int (bi (hzv = (0 : Int32))))] [])) t → Steps p.tables e below (T13.setTop (mkF m 47 #[.val (.ref o0), .val (.long key), .second, .val (.long val), .second, .val (.int (bi (hzv = (0 : Int32))))] [(.int (bi (hzv = (0 : Int32))))])) t := by
        intro t k
        show Steps p.tables e below (T13.setTop (mkF m 47 #[.val (.ref o0), .val (.long key), .second, .val (.long val), .second, .val (.int (bi (hzv = (0 : Int32))))] [(.int (bi (hzv = (0 : Int32))))])) t
        refine XS.ifYes X13.here hx rfl (pc0 := 47) (pc' := 60) rfl (hb hby d17_47) rfl (bi_eq_t h15) (by decide) (by decide) ?_
        exact k
      refine OFin.go S40 ?_
      have F41 := F12.wr W13
      have F42 := Fp.other W9 (Or.inr (slot_ne (Or.inr (hw _ (List.mem_of_getElem? (i := 12) rfl))) (Or.inl (hw _ (List.mem_of_getElem? (i := 93) rfl))) (by decide) (t := (.array (.object "com/example/clockwrap/clockwrap/store/LongTable$Part"))) (t' := .boolean) (by decide) (by decide)))
      have F43 := F42.other W13 (Or.inr (slot_ne (Or.inr (hw _ (List.mem_of_getElem? (i := 12) rfl))) (Or.inl (hw _ (List.mem_of_getElem? (i := 105) rfl))) (by decide) (t := (.array (.object "com/example/clockwrap/clockwrap/store/LongTable$Part"))) (t' := .long) (by decide) (by decide)))
      have F44 := Fs.other W9 (Or.inr (slot_ne (Or.inl (hw _ (List.mem_of_getElem? (i := 81) rfl))) (Or.inl (hw _ (List.mem_of_getElem? (i := 93) rfl))) (by decide) (t := .int) (t' := .boolean) (by decide) (by decide)))
      have F45 := F44.other W13 (Or.inr (slot_ne (Or.inl (hw _ (List.mem_of_getElem? (i := 81) rfl))) (Or.inl (hw _ (List.mem_of_getElem? (i := 105) rfl))) (by decide) (t := .int) (t' := .long) (by decide) (by decide)))
      have F46 := Fw9.other W13 (Or.inr (slot_ne (Or.inl (hw _ (List.mem_of_getElem? (i := 93) rfl))) (Or.inl (hw _ (List.mem_of_getElem? (i := 105) rfl))) (by decide) (t := .boolean) (t' := .long) (by decide) (by decide)))
      have F47 := Vp.other W9 (Ne.symm nop)
      have F48 := F47.other W13 (Ne.symm nop)
      have F49 := FAM.keep hFM (Keep.of_wr W9) (allS (Or.inl rfl) all0)
      have F50 := FAM.keep F49 (Keep.of_wr W13) (allS (Or.inl rfl) all0)
      have F51 := Nat.le_trans hzl (wr_le W9)
      have F52 := Nat.le_trans F51 (wr_le W13)
      exact finV X13 hx Bd.notSynchronized Bd.returns (hb hby d17_60) (by decide) (by decide) (by rw [e13]; exact ⟨Wl, rfl, N13, K13, ⟨pr, pa, FF, KK, VV, TT, 1, _, val, zz, F41, F43, F45, F46, Fw13, F48, FAM.mono F50 (Nat.le_succ _), F52, nop, geo, ⟨wtb, wpr, wF, wW⟩, Or.inl rfl, fun q => absurd q (by decide), fun k v q => ((putM_l key val).2 M k v (fun r => q (r.trans h2))).trans (hM k v q), own_put0 h2⟩, fun x q => Or.inl q⟩)
  · -- pc 3: not (key = (0 : Int64))
    have S53 : ∀ t, Steps p.tables e below (s₁.setTop (mkF m 33 #[.val (.ref o0), .val (.long key), .second, .val (.long val), .second, .unset] [])) t → Steps p.tables e below (s₁.setTop (mkF m 3 #[.val (.ref o0), .val (.long key), .second, .val (.long val), .second, .unset] [(.int (lcmpW key (0 : Int64)))])) t := by
      intro t k
      show Steps p.tables e below (s₁.setTop (mkF m 3 #[.val (.ref o0), .val (.long key), .second, .val (.long val), .second, .unset] [(.int (lcmpW key (0 : Int64)))])) t
      refine XS.ifYes X0.here hx rfl (pc0 := 3) (pc' := 33) rfl (hb hby d17_3) rfl (lc_ne_t h2) (by decide) (by decide) ?_
      exact k
    refine OFin.go S53 ?_
    have S54 : ∀ t, Steps p.tables e below (s₁.setTop (mkF m 35 #[.val (.ref o0), .val (.long key), .second, .val (.long val), .second, .unset] [(.long key), (.ref o0)])) t → Steps p.tables e below (s₁.setTop (mkF m 33 #[.val (.ref o0), .val (.long key), .second, .val (.long val), .second, .unset] [])) t := by
      intro t k
      show Steps p.tables e below (s₁.setTop (mkF m 33 #[.val (.ref o0), .val (.long key), .second, .val (.long val), .second, .unset] [])) t
      refine XS.aloadN X0.here hx rfl (hb hby d17_33) rfl rfl ?_
      show Steps p.tables e below (s₁.setTop (mkF m 34 #[.val (.ref o0), .val (.long key), .second, .val (.long val), .second, .unset] [(.ref o0)])) t
      refine XS.lloadN X0.here hx rfl (hb hby d17_34) rfl ?_
      exact k
    refine OFin.go S54 ?_
    obtain ⟨_, T55, Lc55, X55, hQ55, st55⟩ := privQ X0 hx hZ (y := (⟨"com/example/clockwrap/clockwrap/store/LongTable", "part", "(J)Lcom/example/clockwrap/clockwrap/store/LongTable$Part;"⟩ : MethodName)) hown (hw _ (List.mem_of_getElem? (i := 43) rfl)) (hw _ (List.mem_of_getElem? (i := 44) rfl)) (hw _ (List.mem_of_getElem? (i := 2) rfl)) (hw _ (List.mem_of_getElem? (i := 46) rfl)) (hw _ (List.mem_of_getElem? (i := 45) rfl)) (hw _ (List.mem_of_getElem? (i := 1) rfl)) (by decide) E0 (argsL := [(.long key)]) (rest := []) (rm8 l Z a0 hw [] o0 key pr pa h0 n0 Z0 Fp Vp) (W := 0) (by decide) (by decide) e0 (g := (mkF m 35 #[.val (.ref o0), .val (.long key), .second, .val (.long val), .second, .unset] [(.long key), (.ref o0)])) rfl (by rw [hml]; rfl) (lenOf pd_5 rfl) rfl (by show 2 * 0 + _ ≤ _; exact Nat.le_of_eq rfl) (hb hby d17_35) (Nat.le_of_ble_eq_true rfl) (Nat.le_of_ble_eq_true rfl)
    obtain ⟨rfl, N55q, e55⟩ := hQ55
    have N55 := Fr.app N0 N55q
    refine OFin.go st55 ?_
    show OFin p e below _ (T55.setTop (mkF m 38 #[.val (.ref o0), .val (.long key), .second, .val (.long val), .second, .unset] [(.ref (pa (ix key)))]))
    have S56 : ∀ t, Steps p.tables e below (T55.setTop (mkF m 40 #[.val (.ref o0), .val (.long key), .second, .val (.long val), .second, .unset] [(.long val), (.long key), (.ref (pa (ix key)))])) t → Steps p.tables e below (T55.setTop (mkF m 38 #[.val (.ref o0), .val (.long key), .second, .val (.long val), .second, .unset] [(.ref (pa (ix key)))])) t := by
      intro t k
      show Steps p.tables e below (T55.setTop (mkF m 38 #[.val (.ref o0), .val (.long key), .second, .val (.long val), .second, .unset] [(.ref (pa (ix key)))])) t
      refine XS.lloadN X55.here hx rfl (hb hby d17_38) rfl ?_
      show Steps p.tables e below (T55.setTop (mkF m 39 #[.val (.ref o0), .val (.long key), .second, .val (.long val), .second, .unset] [(.long key), (.ref (pa (ix key)))])) t
      refine XS.lloadN X55.here hx rfl (hb hby d17_39) rfl ?_
      exact k
    refine OFin.go S56 ?_
    obtain ⟨_, T57, Lc57, X57, hQ57, st57⟩ := virtQ X55 hx hZ (y := (⟨"com/example/clockwrap/clockwrap/store/LongTable$Part", "put", "(JJ)Z"⟩ : MethodName)) hown (hw _ (List.mem_of_getElem? (i := 99) rfl)) (hw _ (List.mem_of_getElem? (i := 101) rfl)) (hw _ (List.mem_of_getElem? (i := 14) rfl)) (hw _ (List.mem_of_getElem? (i := 103) rfl)) (hw _ (List.mem_of_getElem? (i := 100) rfl)) (hw _ (List.mem_of_getElem? (i := 102) rfl)) (by decide) (hFM.1 _ (ix_lt key)).1.exa (argsL := [(.long key), (.long val)]) (rest := []) (p_put l Z a0 hw (pa (ix key)) key val (FF (ix key)) (KK (ix key)) (VV (ix key)) (TT (ix key)) mm h0 n0 Z0 (hFM.1 _ (ix_lt key)).1 (fun x q => ((hFM.1 _ (ix_lt key)).2.2 x q).1) (hFM.1 _ (ix_lt key)).2.1 hmm h2) (W := 0) (by decide) (by decide) e55 (g := (mkF m 40 #[.val (.ref o0), .val (.long key), .second, .val (.long val), .second, .unset] [(.long val), (.long key), (.ref (pa (ix key)))])) rfl (by rw [hml]; rfl) (lenOf pd_7 rfl) rfl (by show 2 * 0 + _ ≤ _; exact Nat.le_of_eq rfl) (hb hby d17_40) (Nat.le_of_ble_eq_true rfl) (Nat.le_of_ble_eq_true rfl)
    obtain ⟨bb, F', kf', vf', tk', rfl, N57q, K57q, hT', hs', hP', hR'⟩ := hQ57
    have Z57 : n0 ≤ T57.heap.size := Nat.le_trans Z0 K57q.1
    obtain ⟨M57, wU, hsb⟩ := own_B hFM (ix_lt key) hzl E0.lt Vp.lt Z0 K57q hT' hs' hP' wtb wpr wF wW
    have K57 := Keep.trans K0 K57q (fun x q => Or.inl (wF _ (ix_lt key) x q))
    have N57 := Fr.app N55 N57q
    refine OFin.go st57 ?_
    show OFin p e below _ (T57.setTop (mkF m 43 #[.val (.ref o0), .val (.long key), .second, .val (.long val), .second, .unset] [(.int bb)]))
    have S58 : ∀ t, Steps p.tables e below (T57.setTop (mkF m 47 #[.val (.ref o0), .val (.long key), .second, .val (.long val), .second, .val (.int bb)] [(.int bb)])) t → Steps p.tables e below (T57.setTop (mkF m 43 #[.val (.ref o0), .val (.long key), .second, .val (.long val), .second, .unset] [(.int bb)])) t := by
      intro t k
      show Steps p.tables e below (T57.setTop (mkF m 43 #[.val (.ref o0), .val (.long key), .second, .val (.long val), .second, .unset] [(.int bb)])) t
      refine XS.istore X57.here hx rfl (hb hby d17_43) rfl (l' := #[.val (.ref o0), .val (.long key), .second, .val (.long val), .second, .val (.int bb)]) rfl ?_
      show Steps p.tables e below (T57.setTop (mkF m 45 #[.val (.ref o0), .val (.long key), .second, .val (.long val), .second, .val (.int bb)] [])) t
      refine XS.iload X57.here hx rfl (hb hby d17_45) rfl ?_
      exact k
    refine OFin.go S58 ?_
    by_cases h59 : (bb = (0 : Int32))
    · -- pc 47: (bb = (0 : Int32))
      have S60 : ∀ t, Steps p.tables e below (T57.setTop (mkF m 60 #[.val (.ref o0), .val (.long key), .second, .val (.long val), .second, .val (.int bb)] [])) t → Steps p.tables e below (T57.setTop (mkF m 47 #[.val (.ref o0), .val (.long key), .second, .val (.long val), .second, .val (.int bb)] [(.int bb)])) t := by
        intro t k
        show Steps p.tables e below (T57.setTop (mkF m 47 #[.val (.ref o0), .val (.long key), .second, .val (.long val), .second, .val (.int bb)] [(.int bb)])) t
        refine XS.ifYes X57.here hx rfl (pc0 := 47) (pc' := 60) rfl (hb hby d17_47) rfl ((if0 _ _).trans (teq h59).1) (by decide) (by decide) ?_
        exact k
      refine OFin.go S60 ?_
      have F61 := E0.keep K57q
      have F62 := Fp.keep K57q (fun q => ((hFM.1 _ (ix_lt key)).2.2 _ q).2.2.1 rfl)
      have F63 := Fs.keep K57q (fun q => ((hFM.1 _ (ix_lt key)).2.2 _ q).2.2.1 rfl)
      have F64 := Fh.keep K57q (fun q => ((hFM.1 _ (ix_lt key)).2.2 _ q).2.2.1 rfl)
      have F65 := Fz.keep K57q (fun q => ((hFM.1 _ (ix_lt key)).2.2 _ q).2.2.1 rfl)
      have F66 := Vp.keep K57q (fun q => ((hFM.1 _ (ix_lt key)).2.2 _ q).2.2.2 rfl)
      exact finV X57 hx Bd.notSynchronized Bd.returns (hb hby d17_60) (by decide) (by decide) (by exact ⟨Wl ++ F', rfl, N57, K57, ⟨pr, pa, upd FF (ix key) F', upd KK (ix key) kf', upd VV (ix key) vf', upd TT (ix key) tk', hzv, _, zvv, _, F61, F62, F63, F64, F65, F66, M57, (Nat.le_refl T57.heap.size), nop, geo, wU, hz01, hz0, own_rel hM h2 (putM_l key val) hR', fun v => ((putM_l key val).2 M 0 v (fun r => h2 r.symm)).trans (hM0 v)⟩, hsb⟩)
    · -- pc 47: not (bb = (0 : Int32))
      have S67 : ∀ t, Steps p.tables e below (T57.setTop (mkF m 50 #[.val (.ref o0), .val (.long key), .second, .val (.long val), .second, .val (.int bb)] [])) t → Steps p.tables e below (T57.setTop (mkF m 47 #[.val (.ref o0), .val (.long key), .second, .val (.long val), .second, .val (.int bb)] [(.int bb)])) t := by
        intro t k
        show Steps p.tables e below (T57.setTop (mkF m 47 #[.val (.ref o0), .val (.long key), .second, .val (.long val), .second, .val (.int bb)] [(.int bb)])) t
        refine XS.ifNo X57.here hx rfl (hb hby d17_47) rfl ((if0 _ _).trans (feq h59).1) ?_
        exact k
      refine OFin.go S67 ?_
      have S68 : ∀ t, Steps p.tables e below (T57.setTop (mkF m 52 #[.val (.ref o0), .val (.long key), .second, .val (.long val), .second, .val (.int bb)] [(.ref o0), (.ref o0)])) t → Steps p.tables e below (T57.setTop (mkF m 50 #[.val (.ref o0), .val (.long key), .second, .val (.long val), .second, .val (.int bb)] [])) t := by
        intro t k
        show Steps p.tables e below (T57.setTop (mkF m 50 #[.val (.ref o0), .val (.long key), .second, .val (.long val), .second, .val (.int bb)] [])) t
        refine XS.aloadN X57.here hx rfl (hb hby d17_50) rfl rfl ?_
        show Steps p.tables e below (T57.setTop (mkF m 51 #[.val (.ref o0), .val (.long key), .second, .val (.long val), .second, .val (.int bb)] [(.ref o0)])) t
        refine XS.dup X57.here hx rfl (hb hby d17_51) rfl rfl ?_
        exact k
      refine OFin.go S68 ?_
      have F69 := Fs.keep K57q (fun q => ((hFM.1 _ (ix_lt key)).2.2 _ q).2.2.1 rfl)
      obtain ⟨T70, X70, e70, st70⟩ := getF X57 hx hZ hown (host := "") (Or.inl (hw _ (List.mem_of_getElem? (i := 80) rfl))) Via.refl rfl F69 (g := (mkF m 52 #[.val (.ref o0), .val (.long key), .second, .val (.long val), .second, .val (.int bb)] [(.ref o0), (.ref o0)])) rfl rfl (hb hby d17_52)
      refine OFin.go st70 ?_
      show OFin p e below _ (T70.setTop (mkF m 55 #[.val (.ref o0), .val (.long key), .second, .val (.long val), .second, .val (.int bb)] [(.int szv), (.ref o0)]))
      have S71 : ∀ t, Steps p.tables e below (T70.setTop (mkF m 57 #[.val (.ref o0), .val (.long key), .second, .val (.long val), .second, .val (.int bb)] [(.int (szv + (1 : Int32))), (.ref o0)])) t → Steps p.tables e below (T70.setTop (mkF m 55 #[.val (.ref o0), .val (.long key), .second, .val (.long val), .second, .val (.int bb)] [(.int szv), (.ref o0)])) t := by
        intro t k
        show Steps p.tables e below (T70.setTop (mkF m 55 #[.val (.ref o0), .val (.long key), .second, .val (.long val), .second, .val (.int bb)] [(.int szv), (.ref o0)])) t
        refine XS.iconst X70.here hx rfl (hb hby d17_55) ?_
        show Steps p.tables e below (T70.setTop (mkF m 56 #[.val (.ref o0), .val (.long key), .second, .val (.long val), .second, .val (.int bb)] [(.int (1 : Int32)), (.int szv), (.ref o0)])) t
        refine XS.iadd X70.here hx rfl (hb hby d17_56) rfl ?_
        exact k
      refine OFin.go S71 ?_
      have F72 := E0.keep K57q
      obtain ⟨T73, h73, X73, e73, W73, st73⟩ := putF X70 hx hZ hown (host := "") (Or.inl (hw _ (List.mem_of_getElem? (i := 80) rfl))) Via.refl e70 F69 F72 (Or.inl (hw _ (List.mem_of_getElem? (i := 81) rfl))) (hw _ (List.mem_of_getElem? (i := 1) rfl)) (ty := .int) (by decide) rfl rfl (g := (mkF m 57 #[.val (.ref o0), .val (.long key), .second, .val (.long val), .second, .val (.int bb)] [(.int (szv + (1 : Int32))), (.ref o0)])) rfl rfl (hb hby d17_57)
      have Fw73 := F69.same W73
      have N73 := Fr.snoc X73 N57 geo
      have Z73 : n0 ≤ h73.size := Nat.le_trans Z57 (wr_le W73)
      have K73 := Keep.wr K57 W73 (Or.inl wtb)
      refine OFin.go st73 ?_
      show OFin p e below _ (T73.setTop (mkF m 60 #[.val (.ref o0), .val (.long key), .second, .val (.long val), .second, .val (.int bb)] []))
      have F74 := F72.wr W73
      have F75 := Fp.keep K57q (fun q => ((hFM.1 _ (ix_lt key)).2.2 _ q).2.2.1 rfl)
      have F76 := F75.other W73 (Or.inr (slot_ne (Or.inr (hw _ (List.mem_of_getElem? (i := 12) rfl))) (Or.inl (hw _ (List.mem_of_getElem? (i := 81) rfl))) (by decide) (t := (.array (.object "com/example/clockwrap/clockwrap/store/LongTable$Part"))) (t' := .int) (by decide) (by decide)))
      have F77 := Fh.keep K57q (fun q => ((hFM.1 _ (ix_lt key)).2.2 _ q).2.2.1 rfl)
      have F78 := F77.other W73 (Or.inr (slot_ne (Or.inl (hw _ (List.mem_of_getElem? (i := 93) rfl))) (Or.inl (hw _ (List.mem_of_getElem? (i := 81) rfl))) (by decide) (t := .boolean) (t' := .int) (by decide) (by decide)))
      have F79 := Fz.keep K57q (fun q => ((hFM.1 _ (ix_lt key)).2.2 _ q).2.2.1 rfl)
      have F80 := F79.other W73 (Or.inr (slot_ne (Or.inl (hw _ (List.mem_of_getElem? (i := 105) rfl))) (Or.inl (hw _ (List.mem_of_getElem? (i := 81) rfl))) (by decide) (t := .long) (t' := .int) (by decide) (by decide)))
      have F81 := Vp.keep K57q (fun q => ((hFM.1 _ (ix_lt key)).2.2 _ q).2.2.2 rfl)
      have F82 := F81.other W73 (Ne.symm nop)
      have F83 := FAM.keep M57 (Keep.of_wr W73) (allS (Or.inl rfl) all0)
      have F84 := Nat.le_trans (Nat.le_refl T57.heap.size) (wr_le W73)
      exact finV X73 hx Bd.notSynchronized Bd.returns (hb hby d17_60) (by decide) (by decide) (by rw [e73]; exact ⟨Wl ++ F', rfl, N73, K73, ⟨pr, pa, upd FF (ix key) F', upd KK (ix key) kf', upd VV (ix key) vf', upd TT (ix key) tk', hzv, _, zvv, _, F74, F76, Fw73, F78, F80, F82, F83, F84, nop, geo, wU, hz01, hz0, own_rel hM h2 (putM_l key val) hR', fun v => ((putM_l key val).2 M 0 v (fun r => h2 r.symm)).trans (hM0 v)⟩, hsb⟩)
theorem own_to0 {M : Int64 → Int64 → Prop} {key w : Int64} (h : key = 0) (q : M key w) : M 0 w := by rw [← h]; exact q
theorem own_g0 {M : Int64 → Int64 → Prop} {key zvv : Int64} {hzv : Int32} (h : key = 0) (h01 : hzv = 1 ∨ hzv = 0) (hz0 : hzv = 0 → zvv = 0) (hM0 : ∀ v, M 0 v ↔ hzv = 1 ∧ v = zvv) (q : ∀ w, ¬ M key w) : zvv = 0 := by
  subst h
  rcases h01 with r | r
  · exact absurd ((hM0 zvv).mpr ⟨r, rfl⟩) (q zvv)
  · exact hz0 r
theorem ef_rm15 (m : MethodId) (o0 : Addr) (key : Int64) : entryFrame m #[(.ref o0), (.long key)] 3 = mkF m 0 #[.val (.ref o0), .val (.long key), .second] [] := by first | (simp [entryFrame, mkF, argsToLocals, Value.category]; done) | rfl
def Q_rm15 (Z : State) (o0 : Addr) (key : Int64) (Wl : List Addr) (mm : Nat) (M : Int64 → Int64 → Prop) (h0 : Heap) (n0 : Nat) (v : Option Value) (h : Heap) (L : List Loc) : Prop := ∃ w' : Int64, v = some (.long w') ∧ Fr n0 L ∧ h = h0 ∧ (∀ w, M key w → w' = w) ∧ ((∀ w, ¬ M key w) → w' = 0)
theorem d15_0 : decode prog_32_method_6_code 0 = .ok (.lload_n 1, 1) := by decide +kernel
theorem d15_1 : decode prog_32_method_6_code 1 = .ok (.lconst 0, 1) := by decide +kernel
theorem d15_2 : decode prog_32_method_6_code 2 = .ok (.lcmp, 1) := by decide +kernel
theorem d15_3 : decode prog_32_method_6_code 3 = .ok (.ifCond .ne 10, 3) := by decide +kernel
theorem d15_6 : decode prog_32_method_6_code 6 = .ok (.aload_n 0, 1) := by decide +kernel
theorem d15_7 : decode prog_32_method_6_code 7 = .ok (.getfield 35, 3) := by decide +kernel
theorem d15_10 : decode prog_32_method_6_code 10 = .ok (.goto 12, 3) := by decide +kernel
theorem d15_22 : decode prog_32_method_6_code 22 = .ok (.lreturn, 1) := by decide +kernel
theorem d15_13 : decode prog_32_method_6_code 13 = .ok (.aload_n 0, 1) := by decide +kernel
theorem d15_14 : decode prog_32_method_6_code 14 = .ok (.lload_n 1, 1) := by decide +kernel
theorem d15_15 : decode prog_32_method_6_code 15 = .ok (.invokevirtual 24, 3) := by decide +kernel
theorem d15_18 : decode prog_32_method_6_code 18 = .ok (.lload_n 1, 1) := by decide +kernel
theorem pd_8 : parseMethodDescriptor "(J)J" = some ⟨[.long], some .long⟩ := by decide +kernel
theorem d15_19 : decode prog_32_method_6_code 19 = .ok (.invokevirtual 43, 3) := by decide +kernel
set_option maxRecDepth 65536 in
set_option maxHeartbeats 40000000 in
theorem rm15 (l : Launch) (Z : State) (a0 : Array Value) (hw : ∀ d ∈ tables_1, d.before a0 Z = true) (ws : List Jvm.Cond) (o0 : Addr) (key : Int64) (Wl : List Addr) (mm : Nat) (M : Int64 → Int64 → Prop) (h0 : Heap) (n0 : Nat) (Z0 : n0 ≤ h0.size) (hT : TBL Z h0 n0 o0 Wl mm M) (hmm : mm < 10) :
    MetFree l (⟨"com/example/clockwrap/clockwrap/store/LongTable", "get", "(J)J"⟩ : MethodName) (head1 (Jvm.Cond.code (⟨"com/example/clockwrap/clockwrap/store/LongTable", "get", "(J)J"⟩ : MethodName) prog_32_method_6_code 3 (some .long) :: ws) ({ frames := 3, cells := 0, slots := 0, locals := 60 } : Room)) (fun a U => a = #[(.ref o0), (.long key)] ∧ Z.Warmed39 U.vm ∧ U.heap = h0) (fun _ _ _ _ _ => True) (fun _ U o U' => ∃ v L, o = .returned v ∧ (Q_rm15 Z o0 key Wl mm M h0 n0) v U'.heap L ∧ FrameEnd U o U' L ({ frames := 3, cells := 0, slots := 0, locals := 60 } : Room).cells ({ frames := 3, cells := 0, slots := 0, locals := 60 } : Room).slots) := by
  refine MetFree.of_bodySF (plainFor_of_name pn_2) hisR ?_
  intro p e s m args below meth c s₁ Bd hml0 hP hK
  obtain ⟨rfl, hZ, hh⟩ := hP
  have hx := Bd.exec
  have hby := Bd.bytes
  have hml : c.maxLocals = 3 := hml0
  have hown : s.vm.findClass "com/example/clockwrap/clockwrap/store/LongTable" = some m.cls := findClass_of_methodNamed Bd.named
  have hnm := (name_of_methodNamed Bd.named Bd.method).1
  have X0 : Stand p l e ({ frames := 3, cells := 0, slots := 0, locals := 60 } : Room) s m #[(.ref o0), (.long key)] below meth c s₁ [] 0 0 := Stand.of_body Bd
  have e0 : s₁.heap = h0 := by rw [← hh, Bd.state]; rfl
  have N0 := Fr.nil n0
  show OFin p e below (ORet (Q_rm15 Z o0 key Wl mm M h0 n0) s ({ frames := 3, cells := 0, slots := 0, locals := 60 } : Room).cells ({ frames := 3, cells := 0, slots := 0, locals := 60 } : Room).slots) (s₁.setTop (entryFrame m #[(.ref o0), (.long key)] 3))
  refine OFin.go (fun t k => castTop (ef_rm15 m o0 key) k) ?_
  obtain ⟨pr, pa, FF, KK, VV, TT, hzv, szv, zvv, zz, E0, Fp, Fs, Fh, Fz, Vp, hFM, hzl, nop, geo, ⟨wtb, wpr, wF, wW⟩, hz01, hz0, hM, hM0⟩ := hT
  have K0 := Keep.refl h0 Wl
  show OFin p e below (ORet (Q_rm15 Z o0 key Wl mm M h0 n0) s ({ frames := 3, cells := 0, slots := 0, locals := 60 } : Room).cells ({ frames := 3, cells := 0, slots := 0, locals := 60 } : Room).slots) (s₁.setTop (mkF m 0 #[.val (.ref o0), .val (.long key), .second] []))
  have S1 : ∀ t, Steps p.tables e below (s₁.setTop (mkF m 3 #[.val (.ref o0), .val (.long key), .second] [(.int (lcmpW key (0 : Int64)))])) t → Steps p.tables e below (s₁.setTop (mkF m 0 #[.val (.ref o0), .val (.long key), .second] [])) t := by
    intro t k
    show Steps p.tables e below (s₁.setTop (mkF m 0 #[.val (.ref o0), .val (.long key), .second] [])) t
    refine XS.lloadN X0.here hx rfl (hb hby d15_0) rfl ?_
    show Steps p.tables e below (s₁.setTop (mkF m 1 #[.val (.ref o0), .val (.long key), .second] [(.long key)])) t
    refine XS.lconst X0.here hx rfl (hb hby d15_1) ?_
    show Steps p.tables e below (s₁.setTop (mkF m 2 #[.val (.ref o0), .val (.long key), .second] [(.long (0 : Int64)), (.long key)])) t
    refine XS.lcmp X0.here hx rfl (hb hby d15_2) rfl ?_
    exact k
  refine OFin.go S1 ?_
  by_cases h2 : (key = (0 : Int64))
  · -- pc 3: (key = (0 : Int64))
    have S3 : ∀ t, Steps p.tables e below (s₁.setTop (mkF m 6 #[.val (.ref o0), .val (.long key), .second] [])) t → Steps p.tables e below (s₁.setTop (mkF m 3 #[.val (.ref o0), .val (.long key), .second] [(.int (lcmpW key (0 : Int64)))])) t := by
      intro t k
      show Steps p.tables e below (s₁.setTop (mkF m 3 #[.val (.ref o0), .val (.long key), .second] [(.int (lcmpW key (0 : Int64)))])) t
      refine XS.ifNo X0.here hx rfl (hb hby d15_3) rfl (lc_ne_f h2) ?_
      exact k
    refine OFin.go S3 ?_
    have S4 : ∀ t, Steps p.tables e below (s₁.setTop (mkF m 7 #[.val (.ref o0), .val (.long key), .second] [(.ref o0)])) t → Steps p.tables e below (s₁.setTop (mkF m 6 #[.val (.ref o0), .val (.long key), .second] [])) t := by
      intro t k
      show Steps p.tables e below (s₁.setTop (mkF m 6 #[.val (.ref o0), .val (.long key), .second] [])) t
      refine XS.aloadN X0.here hx rfl (hb hby d15_6) rfl rfl ?_
      exact k
    refine OFin.go S4 ?_
    obtain ⟨T5, X5, e5, st5⟩ := getF X0 hx hZ hown (host := "") (Or.inl (hw _ (List.mem_of_getElem? (i := 104) rfl))) Via.refl e0 Fz (g := (mkF m 7 #[.val (.ref o0), .val (.long key), .second] [(.ref o0)])) rfl rfl (hb hby d15_7)
    refine OFin.go st5 ?_
    show OFin p e below _ (T5.setTop (mkF m 10 #[.val (.ref o0), .val (.long key), .second] [(.long zvv)]))
    have S6 : ∀ t, Steps p.tables e below (T5.setTop (mkF m 22 #[.val (.ref o0), .val (.long key), .second] [(.long zvv)])) t → Steps p.tables e below (T5.setTop (mkF m 10 #[.val (.ref o0), .val (.long key), .second] [(.long zvv)])) t := by
      intro t k
      show Steps p.tables e below (T5.setTop (mkF m 10 #[.val (.ref o0), .val (.long key), .second] [(.long zvv)])) t
      refine XS.goto X5.here hx rfl (pc0 := 10) (pc' := 22) rfl (hb hby d15_10) (by decide) (by decide) ?_
      exact k
    refine OFin.go S6 ?_
    exact finJ X5 hx Bd.notSynchronized Bd.returns (hb hby d15_22) (by decide) (by decide) (⟨zvv, rfl, N0, e5, fun w q => ((hM0 w).mp (own_to0 h2 q)).2.symm, fun q => own_g0 h2 hz01 hz0 hM0 q⟩)
  · -- pc 3: not (key = (0 : Int64))
    have S7 : ∀ t, Steps p.tables e below (s₁.setTop (mkF m 13 #[.val (.ref o0), .val (.long key), .second] [])) t → Steps p.tables e below (s₁.setTop (mkF m 3 #[.val (.ref o0), .val (.long key), .second] [(.int (lcmpW key (0 : Int64)))])) t := by
      intro t k
      show Steps p.tables e below (s₁.setTop (mkF m 3 #[.val (.ref o0), .val (.long key), .second] [(.int (lcmpW key (0 : Int64)))])) t
      refine XS.ifYes X0.here hx rfl (pc0 := 3) (pc' := 13) rfl (hb hby d15_3) rfl (lc_ne_t h2) (by decide) (by decide) ?_
      exact k
    refine OFin.go S7 ?_
    have S8 : ∀ t, Steps p.tables e below (s₁.setTop (mkF m 15 #[.val (.ref o0), .val (.long key), .second] [(.long key), (.ref o0)])) t → Steps p.tables e below (s₁.setTop (mkF m 13 #[.val (.ref o0), .val (.long key), .second] [])) t := by
      intro t k
      show Steps p.tables e below (s₁.setTop (mkF m 13 #[.val (.ref o0), .val (.long key), .second] [])) t
      refine XS.aloadN X0.here hx rfl (hb hby d15_13) rfl rfl ?_
      show Steps p.tables e below (s₁.setTop (mkF m 14 #[.val (.ref o0), .val (.long key), .second] [(.ref o0)])) t
      refine XS.lloadN X0.here hx rfl (hb hby d15_14) rfl ?_
      exact k
    refine OFin.go S8 ?_
    obtain ⟨_, T9, Lc9, X9, hQ9, st9⟩ := privQ X0 hx hZ (y := (⟨"com/example/clockwrap/clockwrap/store/LongTable", "part", "(J)Lcom/example/clockwrap/clockwrap/store/LongTable$Part;"⟩ : MethodName)) hown (hw _ (List.mem_of_getElem? (i := 43) rfl)) (hw _ (List.mem_of_getElem? (i := 44) rfl)) (hw _ (List.mem_of_getElem? (i := 2) rfl)) (hw _ (List.mem_of_getElem? (i := 46) rfl)) (hw _ (List.mem_of_getElem? (i := 45) rfl)) (hw _ (List.mem_of_getElem? (i := 1) rfl)) (by decide) E0 (argsL := [(.long key)]) (rest := []) (rm8 l Z a0 hw [] o0 key pr pa h0 n0 Z0 Fp Vp) (W := 0) (by decide) (by decide) e0 (g := (mkF m 15 #[.val (.ref o0), .val (.long key), .second] [(.long key), (.ref o0)])) rfl (by rw [hml]; rfl) (lenOf pd_5 rfl) rfl (by show 2 * 0 + _ ≤ _; exact Nat.le_of_eq rfl) (hb hby d15_15) (Nat.le_of_ble_eq_true rfl) (Nat.le_of_ble_eq_true rfl)
    obtain ⟨rfl, N9q, e9⟩ := hQ9
    have N9 := Fr.app N0 N9q
    refine OFin.go st9 ?_
    show OFin p e below _ (T9.setTop (mkF m 18 #[.val (.ref o0), .val (.long key), .second] [(.ref (pa (ix key)))]))
    have S10 : ∀ t, Steps p.tables e below (T9.setTop (mkF m 19 #[.val (.ref o0), .val (.long key), .second] [(.long key), (.ref (pa (ix key)))])) t → Steps p.tables e below (T9.setTop (mkF m 18 #[.val (.ref o0), .val (.long key), .second] [(.ref (pa (ix key)))])) t := by
      intro t k
      show Steps p.tables e below (T9.setTop (mkF m 18 #[.val (.ref o0), .val (.long key), .second] [(.ref (pa (ix key)))])) t
      refine XS.lloadN X9.here hx rfl (hb hby d15_18) rfl ?_
      exact k
    refine OFin.go S10 ?_
    obtain ⟨_, T11, Lc11, X11, hQ11, st11⟩ := virtQ X9 hx hZ (y := (⟨"com/example/clockwrap/clockwrap/store/LongTable$Part", "get", "(J)J"⟩ : MethodName)) hown (hw _ (List.mem_of_getElem? (i := 87) rfl)) (hw _ (List.mem_of_getElem? (i := 89) rfl)) (hw _ (List.mem_of_getElem? (i := 14) rfl)) (hw _ (List.mem_of_getElem? (i := 91) rfl)) (hw _ (List.mem_of_getElem? (i := 88) rfl)) (hw _ (List.mem_of_getElem? (i := 90) rfl)) (by decide) (hFM.1 _ (ix_lt key)).1.exa (argsL := [(.long key)]) (rest := []) (p_get l Z a0 hw (pa (ix key)) key (FF (ix key)) (KK (ix key)) (VV (ix key)) (TT (ix key)) mm h0 n0 Z0 (hFM.1 _ (ix_lt key)).1 (fun x q => ((hFM.1 _ (ix_lt key)).2.2 x q).1) (hFM.1 _ (ix_lt key)).2.1 hmm h2) (W := 0) (by decide) (by decide) e9 (g := (mkF m 19 #[.val (.ref o0), .val (.long key), .second] [(.long key), (.ref (pa (ix key)))])) rfl (by rw [hml]; rfl) (lenOf pd_8 rfl) rfl (by show 2 * 0 + _ ≤ _; exact Nat.le_of_eq rfl) (hb hby d15_19) (Nat.le_of_ble_eq_true rfl) (Nat.le_of_ble_eq_true rfl)
    obtain ⟨gv, rfl, N11q, e11, hg1, hg2⟩ := hQ11
    have N11 := Fr.app N9 N11q
    refine OFin.go st11 ?_
    show OFin p e below _ (T11.setTop (mkF m 22 #[.val (.ref o0), .val (.long key), .second] [(.long gv)]))
    exact finJ X11 hx Bd.notSynchronized Bd.returns (hb hby d15_22) (by decide) (by decide) (⟨gv, rfl, N11, e11, fun w q => hg1 w ((hM key w h2).mp q), fun q => hg2 (fun w r => q w ((hM key w h2).mpr r))⟩)
theorem d5_0 : decode method_3_code 0 = .ok (.iload_n 2, 1) := by decide +kernel
theorem d5_1 : decode method_3_code 1 = .ok (.bipush 7, 2) := by decide +kernel
theorem d5_3 : decode method_3_code 3 = .ok (.if_icmp .ne 5, 3) := by decide +kernel
theorem d5_6 : decode method_3_code 6 = .ok (.lconst 0, 1) := by decide +kernel
theorem d5_7 : decode method_3_code 7 = .ok (.lreturn, 1) := by decide +kernel
theorem d5_8 : decode method_3_code 8 = .ok (.lload_n 0, 1) := by decide +kernel
theorem d5_9 : decode method_3_code 9 = .ok (.iload_n 2, 1) := by decide +kernel
theorem d5_10 : decode method_3_code 10 = .ok (.i2l, 1) := by decide +kernel
theorem d5_11 : decode method_3_code 11 = .ok (.ldc2_w 24, 3) := by decide +kernel
theorem d5_14 : decode method_3_code 14 = .ok (.lmul, 1) := by decide +kernel
theorem d5_15 : decode method_3_code 15 = .ok (.ladd, 1) := by decide +kernel
theorem d5_16 : decode method_3_code 16 = .ok (.lreturn, 1) := by decide +kernel
def keyF (aa : Int64) (mi : Int32) : Int64 := (if (mi = (7 : Int32)) then (0 : Int64) else (aa + ((mi.toInt64) * (3733484091090141184 : Int64))))
theorem ef_rm5 (m : MethodId) (aa : Int64) (mi : Int32) : entryFrame m #[(.long aa), (.int mi)] 3 = mkF m 0 #[.val (.long aa), .second, .val (.int mi)] [] := by first | (simp [entryFrame, mkF, argsToLocals, Value.category]; done) | rfl
theorem pn_3 : plainName "com/example/clockwrap/clockwrap/store/LongTableGetPinLaw" = true := by first | (simp [plainName, overriddenIn]; done) | decide +kernel
def Q_rm5 (Z : State) (aa : Int64) (mi : Int32)  (h0 : Heap) (n0 : Nat) (v : Option Value) (h : Heap) (L : List Loc) : Prop := v = some (Value.long (keyF aa mi)) ∧ Fr n0 L ∧ h = h0
set_option maxRecDepth 65536 in
set_option maxHeartbeats 40000000 in
theorem rm5 (l : Launch) (Z : State) (a0 : Array Value) (hw : ∀ d ∈ tables_1, d.before a0 Z = true) (ws : List Jvm.Cond) (aa : Int64) (mi : Int32)  (h0 : Heap) (n0 : Nat) (Z0 : n0 ≤ h0.size)  :
    MetFree l (⟨"com/example/clockwrap/clockwrap/store/LongTableGetPinLaw", "key", "(JI)J"⟩ : MethodName) (head1 (Jvm.Cond.code (⟨"com/example/clockwrap/clockwrap/store/LongTableGetPinLaw", "key", "(JI)J"⟩ : MethodName) method_3_code 3 (some .long) :: ws) ({ frames := 0, cells := 0, slots := 0, locals := 0 } : Room)) (fun a U => a = #[(.long aa), (.int mi)] ∧ Z.Warmed39 U.vm ∧ U.heap = h0) (fun _ _ _ _ _ => True) (fun _ U o U' => ∃ v L, o = .returned v ∧ (Q_rm5 Z aa mi h0 n0) v U'.heap L ∧ FrameEnd U o U' L ({ frames := 0, cells := 0, slots := 0, locals := 0 } : Room).cells ({ frames := 0, cells := 0, slots := 0, locals := 0 } : Room).slots) := by
  refine MetFree.of_bodySF (plainFor_of_name pn_3) hisR ?_
  intro p e s m args below meth c s₁ Bd hml0 hP hK
  obtain ⟨rfl, hZ, hh⟩ := hP
  have hx := Bd.exec
  have hby := Bd.bytes
  have hml : c.maxLocals = 3 := hml0
  have hown : s.vm.findClass "com/example/clockwrap/clockwrap/store/LongTableGetPinLaw" = some m.cls := findClass_of_methodNamed Bd.named
  have hnm := (name_of_methodNamed Bd.named Bd.method).1
  have X0 : Stand p l e ({ frames := 0, cells := 0, slots := 0, locals := 0 } : Room) s m #[(.long aa), (.int mi)] below meth c s₁ [] 0 0 := Stand.of_body Bd
  have e0 : s₁.heap = h0 := by rw [← hh, Bd.state]; rfl
  have N0 := Fr.nil n0
  show OFin p e below (ORet (Q_rm5 Z aa mi h0 n0) s ({ frames := 0, cells := 0, slots := 0, locals := 0 } : Room).cells ({ frames := 0, cells := 0, slots := 0, locals := 0 } : Room).slots) (s₁.setTop (entryFrame m #[(.long aa), (.int mi)] 3))
  refine OFin.go (fun t k => castTop (ef_rm5 m aa mi) k) ?_
  show OFin p e below (ORet (Q_rm5 Z aa mi h0 n0) s ({ frames := 0, cells := 0, slots := 0, locals := 0 } : Room).cells ({ frames := 0, cells := 0, slots := 0, locals := 0 } : Room).slots) (s₁.setTop (mkF m 0 #[.val (.long aa), .second, .val (.int mi)] []))
  have S1 : ∀ t, Steps p.tables e below (s₁.setTop (mkF m 3 #[.val (.long aa), .second, .val (.int mi)] [(.int (7 : Int32)), (.int mi)])) t → Steps p.tables e below (s₁.setTop (mkF m 0 #[.val (.long aa), .second, .val (.int mi)] [])) t := by
    intro t k
    show Steps p.tables e below (s₁.setTop (mkF m 0 #[.val (.long aa), .second, .val (.int mi)] [])) t
    refine XS.iloadN X0.here hx rfl (hb hby d5_0) rfl ?_
    show Steps p.tables e below (s₁.setTop (mkF m 1 #[.val (.long aa), .second, .val (.int mi)] [(.int mi)])) t
    refine XS.bipush X0.here hx rfl (hb hby d5_1) ?_
    exact k
  refine OFin.go S1 ?_
  by_cases h2 : (mi = (7 : Int32))
  · -- pc 3: (mi = (7 : Int32))
    have S3 : ∀ t, Steps p.tables e below (s₁.setTop (mkF m 6 #[.val (.long aa), .second, .val (.int mi)] [])) t → Steps p.tables e below (s₁.setTop (mkF m 3 #[.val (.long aa), .second, .val (.int mi)] [(.int (7 : Int32)), (.int mi)])) t := by
      intro t k
      show Steps p.tables e below (s₁.setTop (mkF m 3 #[.val (.long aa), .second, .val (.int mi)] [(.int (7 : Int32)), (.int mi)])) t
      refine XS.icmpNo X0.here hx rfl (hb hby d5_3) rfl (teq h2).2 ?_
      exact k
    refine OFin.go S3 ?_
    have S4 : ∀ t, Steps p.tables e below (s₁.setTop (mkF m 7 #[.val (.long aa), .second, .val (.int mi)] [(.long (0 : Int64))])) t → Steps p.tables e below (s₁.setTop (mkF m 6 #[.val (.long aa), .second, .val (.int mi)] [])) t := by
      intro t k
      show Steps p.tables e below (s₁.setTop (mkF m 6 #[.val (.long aa), .second, .val (.int mi)] [])) t
      refine XS.lconst X0.here hx rfl (hb hby d5_6) ?_
      exact k
    refine OFin.go S4 ?_
    exact finJ X0 hx Bd.notSynchronized Bd.returns (hb hby d5_7) (by decide) (by decide) (⟨congrArg (fun z => some (Value.long z)) (show (0 : Int64) = (if (mi = (7 : Int32)) then (0 : Int64) else (aa + ((mi.toInt64) * (3733484091090141184 : Int64)))) by rw [if_pos h2] : (0 : Int64) = (keyF aa mi)), N0, e0⟩)
  · -- pc 3: not (mi = (7 : Int32))
    have S5 : ∀ t, Steps p.tables e below (s₁.setTop (mkF m 8 #[.val (.long aa), .second, .val (.int mi)] [])) t → Steps p.tables e below (s₁.setTop (mkF m 3 #[.val (.long aa), .second, .val (.int mi)] [(.int (7 : Int32)), (.int mi)])) t := by
      intro t k
      show Steps p.tables e below (s₁.setTop (mkF m 3 #[.val (.long aa), .second, .val (.int mi)] [(.int (7 : Int32)), (.int mi)])) t
      refine XS.icmpYes X0.here hx rfl (pc0 := 3) (pc' := 8) rfl (hb hby d5_3) rfl (feq h2).2 (by decide) (by decide) ?_
      exact k
    refine OFin.go S5 ?_
    have S6 : ∀ t, Steps p.tables e below (s₁.setTop (mkF m 16 #[.val (.long aa), .second, .val (.int mi)] [(.long (aa + ((mi.toInt64) * (3733484091090141184 : Int64))))])) t → Steps p.tables e below (s₁.setTop (mkF m 8 #[.val (.long aa), .second, .val (.int mi)] [])) t := by
      intro t k
      show Steps p.tables e below (s₁.setTop (mkF m 8 #[.val (.long aa), .second, .val (.int mi)] [])) t
      refine XS.lloadN X0.here hx rfl (hb hby d5_8) rfl ?_
      show Steps p.tables e below (s₁.setTop (mkF m 9 #[.val (.long aa), .second, .val (.int mi)] [(.long aa)])) t
      refine XS.iloadN X0.here hx rfl (hb hby d5_9) rfl ?_
      show Steps p.tables e below (s₁.setTop (mkF m 10 #[.val (.long aa), .second, .val (.int mi)] [(.int mi), (.long aa)])) t
      refine XS.i2l X0.here hx rfl (hb hby d5_10) rfl ?_
      show Steps p.tables e below (s₁.setTop (mkF m 11 #[.val (.long aa), .second, .val (.int mi)] [(.long (mi.toInt64)), (.long aa)])) t
      refine X0.ldc2Long hx hown (mvT hZ (hw _ (List.mem_of_getElem? (i := 34) rfl))) (g := (mkF m 11 #[.val (.long aa), .second, .val (.int mi)] [(.long (mi.toInt64)), (.long aa)])) rfl (hb hby d5_11) _ ?_
      show Steps p.tables e below (s₁.setTop (mkF m 14 #[.val (.long aa), .second, .val (.int mi)] [(.long (3733484091090141184 : Int64)), (.long (mi.toInt64)), (.long aa)])) t
      refine XS.lmul X0.here hx rfl (hb hby d5_14) rfl ?_
      show Steps p.tables e below (s₁.setTop (mkF m 15 #[.val (.long aa), .second, .val (.int mi)] [(.long ((mi.toInt64) * (3733484091090141184 : Int64))), (.long aa)])) t
      refine XS.ladd X0.here hx rfl (hb hby d5_15) rfl ?_
      exact k
    refine OFin.go S6 ?_
    exact finJ X0 hx Bd.notSynchronized Bd.returns (hb hby d5_16) (by decide) (by decide) (⟨congrArg (fun z => some (Value.long z)) (show (aa + ((mi.toInt64) * (3733484091090141184 : Int64))) = (if (mi = (7 : Int32)) then (0 : Int64) else (aa + ((mi.toInt64) * (3733484091090141184 : Int64)))) by rw [if_neg h2] : (aa + ((mi.toInt64) * (3733484091090141184 : Int64))) = (keyF aa mi)), N0, e0⟩)
/-- the two cells that the law keeps beside the table: is q there, and its value -/
def STI (sf : Nat → Int64) (M : Int64 → Int64 → Prop) (q : Int64) : Prop := (sf 0 = 1 ∧ M q (sf 1)) ∨ (sf 0 = 0 ∧ sf 1 = 0 ∧ ∀ w, ¬ M q w)
theorem own_updl2 (sf : Nat → Int64) (x y : Int64) (i : Nat) : upd (upd (fun i => Value.long (sf i)) 0 (.long x)) 1 (.long y) i = .long (upd (upd sf 0 x) 1 y i) := by
  unfold upd; dsimp only; split
  · rfl
  · split <;> rfl
theorem own_sf (sf : Nat → Int64) (x y : Int64) : upd (upd sf 0 x) 1 y 0 = x ∧ upd (upd sf 0 x) 1 y 1 = y := ⟨by rw [upd_miss (by decide), upd_hit], upd_hit _ _ _⟩
section STI
variable {sf : Nat → Int64} {M : Int64 → Int64 → Prop} {k q val : Int64} {R : (Int64 → Int64 → Prop) → Int64 → Int64 → Prop}
theorem STI.oth (h : STI sf M q) (hl : Lcl k R) (ne : ¬ k = q) : STI sf (R M) q :=
  h.imp (fun z => ⟨z.1, (hl.2 M q _ (fun r => ne r.symm)).mpr z.2⟩) (fun z => ⟨z.1, z.2.1, fun w y => z.2.2 w ((hl.2 M q w (fun r => ne r.symm)).mp y)⟩)
theorem STI.add0 (h : STI sf M q) (e : k = q) (h0 : sf 0 = 0) : STI (upd (upd sf 0 1) 1 0) (addM k M) q := by
  subst e
  refine Or.inl ⟨(own_sf sf 1 0).1, ?_⟩
  rw [(own_sf sf 1 0).2]
  unfold addM
  rw [if_pos rfl]
  rcases h with z | z
  · exact absurd (h0.symm.trans z.1) (by decide)
  · exact Or.inl ⟨rfl, z.2.2⟩
theorem STI.add1 (h : STI sf M q) (e : k = q) (h0 : ¬ sf 0 = 0) : STI sf (addM k M) q := by
  subst e
  rcases h with z | z
  · refine Or.inl ⟨z.1, ?_⟩
    unfold addM
    rw [if_pos rfl]; exact Or.inr z.2
  · exact absurd z.1 h0
theorem STI.rem (e : k = q) : STI (upd (upd sf 0 0) 1 0) (remM k M) q :=
  Or.inr ⟨(own_sf sf 0 0).1, (own_sf sf 0 0).2, fun w z => z.1 e.symm⟩
theorem STI.put (e : k = q) : STI (upd (upd sf 0 1) 1 val) (putM k val M) q := by
  refine Or.inl ⟨(own_sf sf 1 val).1, ?_⟩
  rw [(own_sf sf 1 val).2]
  unfold putM
  rw [if_pos e.symm]
theorem STI.get {g : Int64} (h : STI sf M q) (h1 : ∀ w, M q w → g = w) (h2 : (∀ w, ¬ M q w) → g = 0) : g = sf 1 := by
  rcases h with z | z
  · exact h1 _ z.2
  · exact (h2 z.2.2).trans z.2.1.symm
end STI
theorem ef_rm6 (m : MethodId) (o0 : Addr) (sa : Addr) (aa : Int64) (cd : Int32) (qq : Int64) (val : Int64) : entryFrame m #[(.ref o0), (.ref sa), (.long aa), (.int cd), (.long qq), (.long val)] 12 = mkF m 0 #[.val (.ref o0), .val (.ref sa), .val (.long aa), .second, .val (.int cd), .val (.long qq), .second, .val (.long val), .second, .unset, .unset, .unset] [] := by first | (simp [entryFrame, mkF, argsToLocals, Value.category]; done) | rfl
def Q_rm6 (Z : State) (o0 : Addr) (sa : Addr) (aa : Int64) (cd : Int32) (qq : Int64) (val : Int64) (Wl : List Addr) (mm : Nat) (M : Int64 → Int64 → Prop) (sf : Nat → Int64) (h0 : Heap) (n0 : Nat) (v : Option Value) (h : Heap) (L : List Loc) : Prop := ∃ (Wl' : List Addr) (M' : Int64 → Int64 → Prop) (sf' : Nat → Int64), v = none ∧ Fr n0 L ∧ Keep h0 h (sa :: Wl) ∧ TBL Z h n0 o0 Wl' (mm + 1) M' ∧ Ara Z h sa .long 2 (fun i => .long (sf' i)) ∧ sa ∉ Wl' ∧ STI sf' M' qq
theorem d6_0 : decode method_4_code 0 = .ok (.iload 4, 2) := by decide +kernel
theorem d6_2 : decode method_4_code 2 = .ok (.iconst 3, 1) := by decide +kernel
theorem d6_3 : decode method_4_code 3 = .ok (.iand, 1) := by decide +kernel
theorem d6_4 : decode method_4_code 4 = .ok (.istore 9, 2) := by decide +kernel
theorem d6_6 : decode method_4_code 6 = .ok (.lload_n 2, 1) := by decide +kernel
theorem d6_7 : decode method_4_code 7 = .ok (.iload 4, 2) := by decide +kernel
theorem d6_9 : decode method_4_code 9 = .ok (.iconst 2, 1) := by decide +kernel
theorem d6_10 : decode method_4_code 10 = .ok (.iushr, 1) := by decide +kernel
theorem pd_9 : parseMethodDescriptor "(JI)J" = some ⟨[.long, .int], some .long⟩ := by decide +kernel
theorem d6_11 : decode method_4_code 11 = .ok (.invokestatic 10, 3) := by decide +kernel
theorem d6_14 : decode method_4_code 14 = .ok (.lstore 10, 2) := by decide +kernel
theorem d6_16 : decode method_4_code 16 = .ok (.iload 9, 2) := by decide +kernel
theorem d6_18 : decode method_4_code 18 = .ok (.ifCond .ne 13, 3) := by decide +kernel
theorem d6_21 : decode method_4_code 21 = .ok (.aload_n 0, 1) := by decide +kernel
theorem d6_22 : decode method_4_code 22 = .ok (.lload 10, 2) := by decide +kernel
theorem d6_24 : decode method_4_code 24 = .ok (.invokevirtual 26, 3) := by decide +kernel
theorem d6_27 : decode method_4_code 27 = .ok (.pop, 1) := by decide +kernel
theorem d6_28 : decode method_4_code 28 = .ok (.goto 27, 3) := by decide +kernel
theorem d6_55 : decode method_4_code 55 = .ok (.lload 10, 2) := by decide +kernel
theorem d6_57 : decode method_4_code 57 = .ok (.lload 5, 2) := by decide +kernel
theorem d6_59 : decode method_4_code 59 = .ok (.lcmp, 1) := by decide +kernel
theorem d6_60 : decode method_4_code 60 = .ok (.ifCond .ne 53, 3) := by decide +kernel
theorem d6_63 : decode method_4_code 63 = .ok (.iload 9, 2) := by decide +kernel
theorem d6_65 : decode method_4_code 65 = .ok (.ifCond .ne 22, 3) := by decide +kernel
theorem d6_68 : decode method_4_code 68 = .ok (.aload_n 1, 1) := by decide +kernel
theorem d6_69 : decode method_4_code 69 = .ok (.iconst 0, 1) := by decide +kernel
theorem d6_70 : decode method_4_code 70 = .ok (.laload, 1) := by decide +kernel
theorem d6_71 : decode method_4_code 71 = .ok (.lconst 0, 1) := by decide +kernel
theorem d6_72 : decode method_4_code 72 = .ok (.lcmp, 1) := by decide +kernel
theorem d6_73 : decode method_4_code 73 = .ok (.ifCond .ne 40, 3) := by decide +kernel
theorem d6_76 : decode method_4_code 76 = .ok (.aload_n 1, 1) := by decide +kernel
theorem d6_77 : decode method_4_code 77 = .ok (.iconst 0, 1) := by decide +kernel
theorem d6_78 : decode method_4_code 78 = .ok (.lconst 1, 1) := by decide +kernel
theorem d6_79 : decode method_4_code 79 = .ok (.lastore, 1) := by decide +kernel
theorem d6_80 : decode method_4_code 80 = .ok (.aload_n 1, 1) := by decide +kernel
theorem d6_81 : decode method_4_code 81 = .ok (.iconst 1, 1) := by decide +kernel
theorem d6_82 : decode method_4_code 82 = .ok (.lconst 0, 1) := by decide +kernel
theorem d6_83 : decode method_4_code 83 = .ok (.lastore, 1) := by decide +kernel
theorem d6_84 : decode method_4_code 84 = .ok (.goto 29, 3) := by decide +kernel
theorem d6_113 : decode method_4_code 113 = .ok (.return_, 1) := by decide +kernel
theorem d6_31 : decode method_4_code 31 = .ok (.iload 9, 2) := by decide +kernel
theorem d6_33 : decode method_4_code 33 = .ok (.iconst 2, 1) := by decide +kernel
theorem d6_34 : decode method_4_code 34 = .ok (.if_icmp .ne 13, 3) := by decide +kernel
theorem d6_37 : decode method_4_code 37 = .ok (.aload_n 0, 1) := by decide +kernel
theorem d6_38 : decode method_4_code 38 = .ok (.lload 10, 2) := by decide +kernel
theorem d6_40 : decode method_4_code 40 = .ok (.invokevirtual 30, 3) := by decide +kernel
theorem d6_43 : decode method_4_code 43 = .ok (.pop, 1) := by decide +kernel
theorem d6_44 : decode method_4_code 44 = .ok (.goto 11, 3) := by decide +kernel
theorem d6_87 : decode method_4_code 87 = .ok (.iload 9, 2) := by decide +kernel
theorem d6_89 : decode method_4_code 89 = .ok (.iconst 2, 1) := by decide +kernel
theorem d6_90 : decode method_4_code 90 = .ok (.if_icmp .ne 14, 3) := by decide +kernel
theorem d6_93 : decode method_4_code 93 = .ok (.aload_n 1, 1) := by decide +kernel
theorem d6_94 : decode method_4_code 94 = .ok (.iconst 0, 1) := by decide +kernel
theorem d6_95 : decode method_4_code 95 = .ok (.lconst 0, 1) := by decide +kernel
theorem d6_96 : decode method_4_code 96 = .ok (.lastore, 1) := by decide +kernel
theorem d6_97 : decode method_4_code 97 = .ok (.aload_n 1, 1) := by decide +kernel
theorem d6_98 : decode method_4_code 98 = .ok (.iconst 1, 1) := by decide +kernel
theorem d6_99 : decode method_4_code 99 = .ok (.lconst 0, 1) := by decide +kernel
theorem d6_100 : decode method_4_code 100 = .ok (.lastore, 1) := by decide +kernel
theorem d6_101 : decode method_4_code 101 = .ok (.goto 12, 3) := by decide +kernel
theorem d6_47 : decode method_4_code 47 = .ok (.aload_n 0, 1) := by decide +kernel
theorem d6_48 : decode method_4_code 48 = .ok (.lload 10, 2) := by decide +kernel
theorem d6_50 : decode method_4_code 50 = .ok (.lload 7, 2) := by decide +kernel
theorem pd_10 : parseMethodDescriptor "(JJ)V" = some ⟨[.long, .long], none⟩ := by decide +kernel
theorem d6_52 : decode method_4_code 52 = .ok (.invokevirtual 33, 3) := by decide +kernel
theorem d6_104 : decode method_4_code 104 = .ok (.aload_n 1, 1) := by decide +kernel
theorem d6_105 : decode method_4_code 105 = .ok (.iconst 0, 1) := by decide +kernel
theorem d6_106 : decode method_4_code 106 = .ok (.lconst 1, 1) := by decide +kernel
theorem d6_107 : decode method_4_code 107 = .ok (.lastore, 1) := by decide +kernel
theorem d6_108 : decode method_4_code 108 = .ok (.aload_n 1, 1) := by decide +kernel
theorem d6_109 : decode method_4_code 109 = .ok (.iconst 1, 1) := by decide +kernel
theorem d6_110 : decode method_4_code 110 = .ok (.lload 7, 2) := by decide +kernel
theorem d6_112 : decode method_4_code 112 = .ok (.lastore, 1) := by decide +kernel
set_option maxRecDepth 65536 in
set_option maxHeartbeats 40000000 in
theorem rm6 (l : Launch) (Z : State) (a0 : Array Value) (hw : ∀ d ∈ tables_1, d.before a0 Z = true) (ws : List Jvm.Cond) (o0 : Addr) (sa : Addr) (aa : Int64) (cd : Int32) (qq : Int64) (val : Int64) (Wl : List Addr) (mm : Nat) (M : Int64 → Int64 → Prop) (sf : Nat → Int64) (h0 : Heap) (n0 : Nat) (Z0 : n0 ≤ h0.size) (hT : TBL Z h0 n0 o0 Wl mm M) (hmm : mm < 10) (ges : n0 ≤ sa) (Va : Ara Z h0 sa .long 2 (fun i => .long (sf i))) (hsa : sa ∉ Wl) (hI : STI sf M qq) :
    MetFree l (⟨"com/example/clockwrap/clockwrap/store/LongTableGetPinLaw", "run", "(Lcom/example/clockwrap/clockwrap/store/LongTable;[JJIJJ)V"⟩ : MethodName) (head1 (Jvm.Cond.code (⟨"com/example/clockwrap/clockwrap/store/LongTableGetPinLaw", "run", "(Lcom/example/clockwrap/clockwrap/store/LongTable;[JJIJJ)V"⟩ : MethodName) method_4_code 12 none :: ws) ({ frames := 4, cells := 1, slots := 16, locals := 90 } : Room)) (fun a U => a = #[(.ref o0), (.ref sa), (.long aa), (.int cd), (.long qq), (.long val)] ∧ Z.Warmed39 U.vm ∧ U.heap = h0) (fun _ _ _ _ _ => True) (fun _ U o U' => ∃ v L, o = .returned v ∧ (Q_rm6 Z o0 sa aa cd qq val Wl mm M sf h0 n0) v U'.heap L ∧ FrameEnd U o U' L ({ frames := 4, cells := 1, slots := 16, locals := 90 } : Room).cells ({ frames := 4, cells := 1, slots := 16, locals := 90 } : Room).slots) := by
  refine MetFree.of_bodySF (plainFor_of_name pn_3) hisR ?_
  intro p e s m args below meth c s₁ Bd hml0 hP hK
  obtain ⟨rfl, hZ, hh⟩ := hP
  have hx := Bd.exec
  have hby := Bd.bytes
  have hml : c.maxLocals = 12 := hml0
  have hown : s.vm.findClass "com/example/clockwrap/clockwrap/store/LongTableGetPinLaw" = some m.cls := findClass_of_methodNamed Bd.named
  have hnm := (name_of_methodNamed Bd.named Bd.method).1
  have X0 : Stand p l e ({ frames := 4, cells := 1, slots := 16, locals := 90 } : Room) s m #[(.ref o0), (.ref sa), (.long aa), (.int cd), (.long qq), (.long val)] below meth c s₁ [] 0 0 := Stand.of_body Bd
  have e0 : s₁.heap = h0 := by rw [← hh, Bd.state]; rfl
  have N0 := Fr.nil n0
  show OFin p e below (ORet (Q_rm6 Z o0 sa aa cd qq val Wl mm M sf h0 n0) s ({ frames := 4, cells := 1, slots := 16, locals := 90 } : Room).cells ({ frames := 4, cells := 1, slots := 16, locals := 90 } : Room).slots) (s₁.setTop (entryFrame m #[(.ref o0), (.ref sa), (.long aa), (.int cd), (.long qq), (.long val)] 12))
  refine OFin.go (fun t k => castTop (ef_rm6 m o0 sa aa cd qq val) k) ?_
  have K0 := Keep.refl h0 (sa :: Wl)
  show OFin p e below (ORet (Q_rm6 Z o0 sa aa cd qq val Wl mm M sf h0 n0) s ({ frames := 4, cells := 1, slots := 16, locals := 90 } : Room).cells ({ frames := 4, cells := 1, slots := 16, locals := 90 } : Room).slots) (s₁.setTop (mkF m 0 #[.val (.ref o0), .val (.ref sa), .val (.long aa), .second, .val (.int cd), .val (.long qq), .second, .val (.long val), .second, .unset, .unset, .unset] []))
  have S1 : ∀ t, Steps p.tables e below (s₁.setTop (mkF m 11 #[.val (.ref o0), .val (.ref sa), .val (.long aa), .second, .val (.int cd), .val (.long qq), .second, .val (.long val), .second, .val (.int (cd &&& (3 : Int32))), .unset, .unset] [(.int ((cd.toUInt32 >>> ((2 : Int32) &&& 31).toUInt32).toInt32)), (.long aa)])) t → Steps p.tables e below (s₁.setTop (mkF m 0 #[.val (.ref o0), .val (.ref sa), .val (.long aa), .second, .val (.int cd), .val (.long qq), .second, .val (.long val), .second, .unset, .unset, .unset] [])) t := by
    intro t k
    show Steps p.tables e below (s₁.setTop (mkF m 0 #[.val (.ref o0), .val (.ref sa), .val (.long aa), .second, .val (.int cd), .val (.long qq), .second, .val (.long val), .second, .unset, .unset, .unset] [])) t
    refine XS.iload X0.here hx rfl (hb hby d6_0) rfl ?_
    show Steps p.tables e below (s₁.setTop (mkF m 2 #[.val (.ref o0), .val (.ref sa), .val (.long aa), .second, .val (.int cd), .val (.long qq), .second, .val (.long val), .second, .unset, .unset, .unset] [(.int cd)])) t
    refine XS.iconst X0.here hx rfl (hb hby d6_2) ?_
    show Steps p.tables e below (s₁.setTop (mkF m 3 #[.val (.ref o0), .val (.ref sa), .val (.long aa), .second, .val (.int cd), .val (.long qq), .second, .val (.long val), .second, .unset, .unset, .unset] [(.int (3 : Int32)), (.int cd)])) t
    refine XS.iand X0.here hx rfl (hb hby d6_3) rfl ?_
    show Steps p.tables e below (s₁.setTop (mkF m 4 #[.val (.ref o0), .val (.ref sa), .val (.long aa), .second, .val (.int cd), .val (.long qq), .second, .val (.long val), .second, .unset, .unset, .unset] [(.int (cd &&& (3 : Int32)))])) t
    refine XS.istore X0.here hx rfl (hb hby d6_4) rfl (l' := #[.val (.ref o0), .val (.ref sa), .val (.long aa), .second, .val (.int cd), .val (.long qq), .second, .val (.long val), .second, .val (.int (cd &&& (3 : Int32))), .unset, .unset]) rfl ?_
    show Steps p.tables e below (s₁.setTop (mkF m 6 #[.val (.ref o0), .val (.ref sa), .val (.long aa), .second, .val (.int cd), .val (.long qq), .second, .val (.long val), .second, .val (.int (cd &&& (3 : Int32))), .unset, .unset] [])) t
    refine XS.lloadN X0.here hx rfl (hb hby d6_6) rfl ?_
    show Steps p.tables e below (s₁.setTop (mkF m 7 #[.val (.ref o0), .val (.ref sa), .val (.long aa), .second, .val (.int cd), .val (.long qq), .second, .val (.long val), .second, .val (.int (cd &&& (3 : Int32))), .unset, .unset] [(.long aa)])) t
    refine XS.iload X0.here hx rfl (hb hby d6_7) rfl ?_
    show Steps p.tables e below (s₁.setTop (mkF m 9 #[.val (.ref o0), .val (.ref sa), .val (.long aa), .second, .val (.int cd), .val (.long qq), .second, .val (.long val), .second, .val (.int (cd &&& (3 : Int32))), .unset, .unset] [(.int cd), (.long aa)])) t
    refine XS.iconst X0.here hx rfl (hb hby d6_9) ?_
    show Steps p.tables e below (s₁.setTop (mkF m 10 #[.val (.ref o0), .val (.ref sa), .val (.long aa), .second, .val (.int cd), .val (.long qq), .second, .val (.long val), .second, .val (.int (cd &&& (3 : Int32))), .unset, .unset] [(.int (2 : Int32)), (.int cd), (.long aa)])) t
    refine XS.iushr X0.here hx rfl (hb hby d6_10) rfl ?_
    exact k
  refine OFin.go S1 ?_
  obtain ⟨_, T2, Lc2, X2, hQ2, st2⟩ := callQ X0 hx hZ (y := (⟨"com/example/clockwrap/clockwrap/store/LongTableGetPinLaw", "key", "(JI)J"⟩ : MethodName)) hown (hw _ (List.mem_of_getElem? (i := 30) rfl)) (hw _ (List.mem_of_getElem? (i := 31) rfl)) (hw _ (List.mem_of_getElem? (i := 32) rfl)) (hw _ (List.mem_of_getElem? (i := 33) rfl)) (by decide) (argsL := [(.long aa), (.int ((cd.toUInt32 >>> ((2 : Int32) &&& 31).toUInt32).toInt32))]) (rest := []) (rm5 l Z a0 hw [] aa ((cd.toUInt32 >>> ((2 : Int32) &&& 31).toUInt32).toInt32) h0 n0 Z0) (W := 0) (by decide) (by decide) e0 (g := (mkF m 11 #[.val (.ref o0), .val (.ref sa), .val (.long aa), .second, .val (.int cd), .val (.long qq), .second, .val (.long val), .second, .val (.int (cd &&& (3 : Int32))), .unset, .unset] [(.int ((cd.toUInt32 >>> ((2 : Int32) &&& 31).toUInt32).toInt32)), (.long aa)])) rfl (by rw [hml]; rfl) (lenOf pd_9 rfl) rfl (by show 2 * 0 + _ ≤ _; exact Nat.le_of_eq rfl) (hb hby d6_11) (Nat.le_of_ble_eq_true rfl) (Nat.le_of_ble_eq_true rfl)
  obtain ⟨rfl, N2q, e2⟩ := hQ2
  have N2 := Fr.app N0 N2q
  refine OFin.go st2 ?_
  show OFin p e below _ (T2.setTop (mkF m 14 #[.val (.ref o0), .val (.ref sa), .val (.long aa), .second, .val (.int cd), .val (.long qq), .second, .val (.long val), .second, .val (.int (cd &&& (3 : Int32))), .unset, .unset] [(.long (keyF aa ((cd.toUInt32 >>> ((2 : Int32) &&& 31).toUInt32).toInt32)))]))
  have S3 : ∀ t, Steps p.tables e below (T2.setTop (mkF m 18 #[.val (.ref o0), .val (.ref sa), .val (.long aa), .second, .val (.int cd), .val (.long qq), .second, .val (.long val), .second, .val (.int (cd &&& (3 : Int32))), .val (.long (keyF aa ((cd.toUInt32 >>> ((2 : Int32) &&& 31).toUInt32).toInt32))), .second] [(.int (cd &&& (3 : Int32)))])) t → Steps p.tables e below (T2.setTop (mkF m 14 #[.val (.ref o0), .val (.ref sa), .val (.long aa), .second, .val (.int cd), .val (.long qq), .second, .val (.long val), .second, .val (.int (cd &&& (3 : Int32))), .unset, .unset] [(.long (keyF aa ((cd.toUInt32 >>> ((2 : Int32) &&& 31).toUInt32).toInt32)))])) t := by
    intro t k
    show Steps p.tables e below (T2.setTop (mkF m 14 #[.val (.ref o0), .val (.ref sa), .val (.long aa), .second, .val (.int cd), .val (.long qq), .second, .val (.long val), .second, .val (.int (cd &&& (3 : Int32))), .unset, .unset] [(.long (keyF aa ((cd.toUInt32 >>> ((2 : Int32) &&& 31).toUInt32).toInt32)))])) t
    refine XS.lstore X2.here hx rfl (hb hby d6_14) rfl (l' := #[.val (.ref o0), .val (.ref sa), .val (.long aa), .second, .val (.int cd), .val (.long qq), .second, .val (.long val), .second, .val (.int (cd &&& (3 : Int32))), .val (.long (keyF aa ((cd.toUInt32 >>> ((2 : Int32) &&& 31).toUInt32).toInt32))), .second]) rfl ?_
    show Steps p.tables e below (T2.setTop (mkF m 16 #[.val (.ref o0), .val (.ref sa), .val (.long aa), .second, .val (.int cd), .val (.long qq), .second, .val (.long val), .second, .val (.int (cd &&& (3 : Int32))), .val (.long (keyF aa ((cd.toUInt32 >>> ((2 : Int32) &&& 31).toUInt32).toInt32))), .second] [])) t
    refine XS.iload X2.here hx rfl (hb hby d6_16) rfl ?_
    exact k
  refine OFin.go S3 ?_
  by_cases h4 : ((cd &&& (3 : Int32)) = (0 : Int32))
  · -- pc 18: ((cd &&& (3 : Int32)) = (0 : Int32))
    have S5 : ∀ t, Steps p.tables e below (T2.setTop (mkF m 21 #[.val (.ref o0), .val (.ref sa), .val (.long aa), .second, .val (.int cd), .val (.long qq), .second, .val (.long val), .second, .val (.int (cd &&& (3 : Int32))), .val (.long (keyF aa ((cd.toUInt32 >>> ((2 : Int32) &&& 31).toUInt32).toInt32))), .second] [])) t → Steps p.tables e below (T2.setTop (mkF m 18 #[.val (.ref o0), .val (.ref sa), .val (.long aa), .second, .val (.int cd), .val (.long qq), .second, .val (.long val), .second, .val (.int (cd &&& (3 : Int32))), .val (.long (keyF aa ((cd.toUInt32 >>> ((2 : Int32) &&& 31).toUInt32).toInt32))), .second] [(.int (cd &&& (3 : Int32)))])) t := by
      intro t k
      show Steps p.tables e below (T2.setTop (mkF m 18 #[.val (.ref o0), .val (.ref sa), .val (.long aa), .second, .val (.int cd), .val (.long qq), .second, .val (.long val), .second, .val (.int (cd &&& (3 : Int32))), .val (.long (keyF aa ((cd.toUInt32 >>> ((2 : Int32) &&& 31).toUInt32).toInt32))), .second] [(.int (cd &&& (3 : Int32)))])) t
      refine XS.ifNo X2.here hx rfl (hb hby d6_18) rfl ((if0 _ _).trans (teq h4).2) ?_
      exact k
    refine OFin.go S5 ?_
    have S6 : ∀ t, Steps p.tables e below (T2.setTop (mkF m 24 #[.val (.ref o0), .val (.ref sa), .val (.long aa), .second, .val (.int cd), .val (.long qq), .second, .val (.long val), .second, .val (.int (cd &&& (3 : Int32))), .val (.long (keyF aa ((cd.toUInt32 >>> ((2 : Int32) &&& 31).toUInt32).toInt32))), .second] [(.long (keyF aa ((cd.toUInt32 >>> ((2 : Int32) &&& 31).toUInt32).toInt32))), (.ref o0)])) t → Steps p.tables e below (T2.setTop (mkF m 21 #[.val (.ref o0), .val (.ref sa), .val (.long aa), .second, .val (.int cd), .val (.long qq), .second, .val (.long val), .second, .val (.int (cd &&& (3 : Int32))), .val (.long (keyF aa ((cd.toUInt32 >>> ((2 : Int32) &&& 31).toUInt32).toInt32))), .second] [])) t := by
      intro t k
      show Steps p.tables e below (T2.setTop (mkF m 21 #[.val (.ref o0), .val (.ref sa), .val (.long aa), .second, .val (.int cd), .val (.long qq), .second, .val (.long val), .second, .val (.int (cd &&& (3 : Int32))), .val (.long (keyF aa ((cd.toUInt32 >>> ((2 : Int32) &&& 31).toUInt32).toInt32))), .second] [])) t
      refine XS.aloadN X2.here hx rfl (hb hby d6_21) rfl rfl ?_
      show Steps p.tables e below (T2.setTop (mkF m 22 #[.val (.ref o0), .val (.ref sa), .val (.long aa), .second, .val (.int cd), .val (.long qq), .second, .val (.long val), .second, .val (.int (cd &&& (3 : Int32))), .val (.long (keyF aa ((cd.toUInt32 >>> ((2 : Int32) &&& 31).toUInt32).toInt32))), .second] [(.ref o0)])) t
      refine XS.lload X2.here hx rfl (hb hby d6_22) rfl ?_
      exact k
    refine OFin.go S6 ?_
    obtain ⟨_, T7, Lc7, X7, hQ7, st7⟩ := virtQ X2 hx hZ (y := (⟨"com/example/clockwrap/clockwrap/store/LongTable", "add", "(J)Z"⟩ : MethodName)) hown (hw _ (List.mem_of_getElem? (i := 62) rfl)) (hw _ (List.mem_of_getElem? (i := 64) rfl)) (hw _ (List.mem_of_getElem? (i := 2) rfl)) (hw _ (List.mem_of_getElem? (i := 66) rfl)) (hw _ (List.mem_of_getElem? (i := 63) rfl)) (hw _ (List.mem_of_getElem? (i := 65) rfl)) (by decide) hT.exa (argsL := [(.long (keyF aa ((cd.toUInt32 >>> ((2 : Int32) &&& 31).toUInt32).toInt32)))]) (rest := []) (rm12 l Z a0 hw [] o0 (keyF aa ((cd.toUInt32 >>> ((2 : Int32) &&& 31).toUInt32).toInt32)) Wl mm M h0 n0 Z0 hT hmm) (W := 0) (by decide) (by decide) e2 (g := (mkF m 24 #[.val (.ref o0), .val (.ref sa), .val (.long aa), .second, .val (.int cd), .val (.long qq), .second, .val (.long val), .second, .val (.int (cd &&& (3 : Int32))), .val (.long (keyF aa ((cd.toUInt32 >>> ((2 : Int32) &&& 31).toUInt32).toInt32))), .second] [(.long (keyF aa ((cd.toUInt32 >>> ((2 : Int32) &&& 31).toUInt32).toInt32))), (.ref o0)])) rfl (by rw [hml]; rfl) (lenOf pd_6 rfl) rfl (by show 2 * 0 + _ ≤ _; exact Nat.le_of_eq rfl) (hb hby d6_24) (Nat.le_of_ble_eq_true rfl) (Nat.le_of_ble_eq_true rfl)
    obtain ⟨bb7, Wl7, rfl, N7q, K7q, Tb7, sb7⟩ := hQ7
    have Z7 : n0 ≤ T7.heap.size := Nat.le_trans Z0 K7q.1
    have K7 := Keep.trans K0 K7q (fun x q => Or.inl (.tail _ q))
    have N7 := Fr.app N2 N7q
    refine OFin.go st7 ?_
    show OFin p e below _ (T7.setTop (mkF m 27 #[.val (.ref o0), .val (.ref sa), .val (.long aa), .second, .val (.int cd), .val (.long qq), .second, .val (.long val), .second, .val (.int (cd &&& (3 : Int32))), .val (.long (keyF aa ((cd.toUInt32 >>> ((2 : Int32) &&& 31).toUInt32).toInt32))), .second] [(.int bb7)]))
    have S8 : ∀ t, Steps p.tables e below (T7.setTop (mkF m 60 #[.val (.ref o0), .val (.ref sa), .val (.long aa), .second, .val (.int cd), .val (.long qq), .second, .val (.long val), .second, .val (.int (cd &&& (3 : Int32))), .val (.long (keyF aa ((cd.toUInt32 >>> ((2 : Int32) &&& 31).toUInt32).toInt32))), .second] [(.int (lcmpW (keyF aa ((cd.toUInt32 >>> ((2 : Int32) &&& 31).toUInt32).toInt32)) qq))])) t → Steps p.tables e below (T7.setTop (mkF m 27 #[.val (.ref o0), .val (.ref sa), .val (.long aa), .second, .val (.int cd), .val (.long qq), .second, .val (.long val), .second, .val (.int (cd &&& (3 : Int32))), .val (.long (keyF aa ((cd.toUInt32 >>> ((2 : Int32) &&& 31).toUInt32).toInt32))), .second] [(.int bb7)])) t := by
      intro t k
      show Steps p.tables e below (T7.setTop (mkF m 27 #[.val (.ref o0), .val (.ref sa), .val (.long aa), .second, .val (.int cd), .val (.long qq), .second, .val (.long val), .second, .val (.int (cd &&& (3 : Int32))), .val (.long (keyF aa ((cd.toUInt32 >>> ((2 : Int32) &&& 31).toUInt32).toInt32))), .second] [(.int bb7)])) t
      refine XS.pop X7.here hx rfl (hb hby d6_27) rfl rfl ?_
      show Steps p.tables e below (T7.setTop (mkF m 28 #[.val (.ref o0), .val (.ref sa), .val (.long aa), .second, .val (.int cd), .val (.long qq), .second, .val (.long val), .second, .val (.int (cd &&& (3 : Int32))), .val (.long (keyF aa ((cd.toUInt32 >>> ((2 : Int32) &&& 31).toUInt32).toInt32))), .second] [])) t
      refine XS.goto X7.here hx rfl (pc0 := 28) (pc' := 55) rfl (hb hby d6_28) (by decide) (by decide) ?_
      show Steps p.tables e below (T7.setTop (mkF m 55 #[.val (.ref o0), .val (.ref sa), .val (.long aa), .second, .val (.int cd), .val (.long qq), .second, .val (.long val), .second, .val (.int (cd &&& (3 : Int32))), .val (.long (keyF aa ((cd.toUInt32 >>> ((2 : Int32) &&& 31).toUInt32).toInt32))), .second] [])) t
      refine XS.lload X7.here hx rfl (hb hby d6_55) rfl ?_
      show Steps p.tables e below (T7.setTop (mkF m 57 #[.val (.ref o0), .val (.ref sa), .val (.long aa), .second, .val (.int cd), .val (.long qq), .second, .val (.long val), .second, .val (.int (cd &&& (3 : Int32))), .val (.long (keyF aa ((cd.toUInt32 >>> ((2 : Int32) &&& 31).toUInt32).toInt32))), .second] [(.long (keyF aa ((cd.toUInt32 >>> ((2 : Int32) &&& 31).toUInt32).toInt32)))])) t
      refine XS.lload X7.here hx rfl (hb hby d6_57) rfl ?_
      show Steps p.tables e below (T7.setTop (mkF m 59 #[.val (.ref o0), .val (.ref sa), .val (.long aa), .second, .val (.int cd), .val (.long qq), .second, .val (.long val), .second, .val (.int (cd &&& (3 : Int32))), .val (.long (keyF aa ((cd.toUInt32 >>> ((2 : Int32) &&& 31).toUInt32).toInt32))), .second] [(.long qq), (.long (keyF aa ((cd.toUInt32 >>> ((2 : Int32) &&& 31).toUInt32).toInt32)))])) t
      refine XS.lcmp X7.here hx rfl (hb hby d6_59) rfl ?_
      exact k
    refine OFin.go S8 ?_
    by_cases h9 : ((keyF aa ((cd.toUInt32 >>> ((2 : Int32) &&& 31).toUInt32).toInt32)) = qq)
    · -- pc 60: ((keyF aa ((cd.toUInt32 >>> ((2 : Int32) &&& 31).toUInt32).toInt32)) = qq)
      have S10 : ∀ t, Steps p.tables e below (T7.setTop (mkF m 63 #[.val (.ref o0), .val (.ref sa), .val (.long aa), .second, .val (.int cd), .val (.long qq), .second, .val (.long val), .second, .val (.int (cd &&& (3 : Int32))), .val (.long (keyF aa ((cd.toUInt32 >>> ((2 : Int32) &&& 31).toUInt32).toInt32))), .second] [])) t → Steps p.tables e below (T7.setTop (mkF m 60 #[.val (.ref o0), .val (.ref sa), .val (.long aa), .second, .val (.int cd), .val (.long qq), .second, .val (.long val), .second, .val (.int (cd &&& (3 : Int32))), .val (.long (keyF aa ((cd.toUInt32 >>> ((2 : Int32) &&& 31).toUInt32).toInt32))), .second] [(.int (lcmpW (keyF aa ((cd.toUInt32 >>> ((2 : Int32) &&& 31).toUInt32).toInt32)) qq))])) t := by
        intro t k
        show Steps p.tables e below (T7.setTop (mkF m 60 #[.val (.ref o0), .val (.ref sa), .val (.long aa), .second, .val (.int cd), .val (.long qq), .second, .val (.long val), .second, .val (.int (cd &&& (3 : Int32))), .val (.long (keyF aa ((cd.toUInt32 >>> ((2 : Int32) &&& 31).toUInt32).toInt32))), .second] [(.int (lcmpW (keyF aa ((cd.toUInt32 >>> ((2 : Int32) &&& 31).toUInt32).toInt32)) qq))])) t
        refine XS.ifNo X7.here hx rfl (hb hby d6_60) rfl (lc_ne_f h9) ?_
        exact k
      refine OFin.go S10 ?_
      have S11 : ∀ t, Steps p.tables e below (T7.setTop (mkF m 65 #[.val (.ref o0), .val (.ref sa), .val (.long aa), .second, .val (.int cd), .val (.long qq), .second, .val (.long val), .second, .val (.int (cd &&& (3 : Int32))), .val (.long (keyF aa ((cd.toUInt32 >>> ((2 : Int32) &&& 31).toUInt32).toInt32))), .second] [(.int (cd &&& (3 : Int32)))])) t → Steps p.tables e below (T7.setTop (mkF m 63 #[.val (.ref o0), .val (.ref sa), .val (.long aa), .second, .val (.int cd), .val (.long qq), .second, .val (.long val), .second, .val (.int (cd &&& (3 : Int32))), .val (.long (keyF aa ((cd.toUInt32 >>> ((2 : Int32) &&& 31).toUInt32).toInt32))), .second] [])) t := by
        intro t k
        show Steps p.tables e below (T7.setTop (mkF m 63 #[.val (.ref o0), .val (.ref sa), .val (.long aa), .second, .val (.int cd), .val (.long qq), .second, .val (.long val), .second, .val (.int (cd &&& (3 : Int32))), .val (.long (keyF aa ((cd.toUInt32 >>> ((2 : Int32) &&& 31).toUInt32).toInt32))), .second] [])) t
        refine XS.iload X7.here hx rfl (hb hby d6_63) rfl ?_
        exact k
      refine OFin.go S11 ?_
      have S12 : ∀ t, Steps p.tables e below (T7.setTop (mkF m 68 #[.val (.ref o0), .val (.ref sa), .val (.long aa), .second, .val (.int cd), .val (.long qq), .second, .val (.long val), .second, .val (.int (cd &&& (3 : Int32))), .val (.long (keyF aa ((cd.toUInt32 >>> ((2 : Int32) &&& 31).toUInt32).toInt32))), .second] [])) t → Steps p.tables e below (T7.setTop (mkF m 65 #[.val (.ref o0), .val (.ref sa), .val (.long aa), .second, .val (.int cd), .val (.long qq), .second, .val (.long val), .second, .val (.int (cd &&& (3 : Int32))), .val (.long (keyF aa ((cd.toUInt32 >>> ((2 : Int32) &&& 31).toUInt32).toInt32))), .second] [(.int (cd &&& (3 : Int32)))])) t := by
        intro t k
        show Steps p.tables e below (T7.setTop (mkF m 65 #[.val (.ref o0), .val (.ref sa), .val (.long aa), .second, .val (.int cd), .val (.long qq), .second, .val (.long val), .second, .val (.int (cd &&& (3 : Int32))), .val (.long (keyF aa ((cd.toUInt32 >>> ((2 : Int32) &&& 31).toUInt32).toInt32))), .second] [(.int (cd &&& (3 : Int32)))])) t
        refine XS.ifNo X7.here hx rfl (hb hby d6_65) rfl ((if0 _ _).trans (teq h4).2) ?_
        exact k
      refine OFin.go S12 ?_
      have F13 := Va.keep K7q hsa
      have S14 : ∀ t, Steps p.tables e below (T7.setTop (mkF m 73 #[.val (.ref o0), .val (.ref sa), .val (.long aa), .second, .val (.int cd), .val (.long qq), .second, .val (.long val), .second, .val (.int (cd &&& (3 : Int32))), .val (.long (keyF aa ((cd.toUInt32 >>> ((2 : Int32) &&& 31).toUInt32).toInt32))), .second] [(.int (lcmpW (sf 0) (0 : Int64)))])) t → Steps p.tables e below (T7.setTop (mkF m 68 #[.val (.ref o0), .val (.ref sa), .val (.long aa), .second, .val (.int cd), .val (.long qq), .second, .val (.long val), .second, .val (.int (cd &&& (3 : Int32))), .val (.long (keyF aa ((cd.toUInt32 >>> ((2 : Int32) &&& 31).toUInt32).toInt32))), .second] [])) t := by
        intro t k
        show Steps p.tables e below (T7.setTop (mkF m 68 #[.val (.ref o0), .val (.ref sa), .val (.long aa), .second, .val (.int cd), .val (.long qq), .second, .val (.long val), .second, .val (.int (cd &&& (3 : Int32))), .val (.long (keyF aa ((cd.toUInt32 >>> ((2 : Int32) &&& 31).toUInt32).toInt32))), .second] [])) t
        refine XS.aloadN X7.here hx rfl (hb hby d6_68) rfl rfl ?_
        show Steps p.tables e below (T7.setTop (mkF m 69 #[.val (.ref o0), .val (.ref sa), .val (.long aa), .second, .val (.int cd), .val (.long qq), .second, .val (.long val), .second, .val (.int (cd &&& (3 : Int32))), .val (.long (keyF aa ((cd.toUInt32 >>> ((2 : Int32) &&& 31).toUInt32).toInt32))), .second] [(.ref sa)])) t
        refine XS.iconst X7.here hx rfl (hb hby d6_69) ?_
        show Steps p.tables e below (T7.setTop (mkF m 70 #[.val (.ref o0), .val (.ref sa), .val (.long aa), .second, .val (.int cd), .val (.long qq), .second, .val (.long val), .second, .val (.int (cd &&& (3 : Int32))), .val (.long (keyF aa ((cd.toUInt32 >>> ((2 : Int32) &&& 31).toUInt32).toInt32))), .second] [(.int (0 : Int32)), (.ref sa)])) t
        refine rdJ X7 hx hZ rfl F13 (i := 0) (by decide) rfl (by decide) (x := (.long (sf 0))) rfl (g := (mkF m 70 #[.val (.ref o0), .val (.ref sa), .val (.long aa), .second, .val (.int cd), .val (.long qq), .second, .val (.long val), .second, .val (.int (cd &&& (3 : Int32))), .val (.long (keyF aa ((cd.toUInt32 >>> ((2 : Int32) &&& 31).toUInt32).toInt32))), .second] [(.int (0 : Int32)), (.ref sa)])) rfl rfl (hb hby d6_70) ?_
        show Steps p.tables e below (T7.setTop (mkF m 71 #[.val (.ref o0), .val (.ref sa), .val (.long aa), .second, .val (.int cd), .val (.long qq), .second, .val (.long val), .second, .val (.int (cd &&& (3 : Int32))), .val (.long (keyF aa ((cd.toUInt32 >>> ((2 : Int32) &&& 31).toUInt32).toInt32))), .second] [(.long (sf 0))])) t
        refine XS.lconst X7.here hx rfl (hb hby d6_71) ?_
        show Steps p.tables e below (T7.setTop (mkF m 72 #[.val (.ref o0), .val (.ref sa), .val (.long aa), .second, .val (.int cd), .val (.long qq), .second, .val (.long val), .second, .val (.int (cd &&& (3 : Int32))), .val (.long (keyF aa ((cd.toUInt32 >>> ((2 : Int32) &&& 31).toUInt32).toInt32))), .second] [(.long (0 : Int64)), (.long (sf 0))])) t
        refine XS.lcmp X7.here hx rfl (hb hby d6_72) rfl ?_
        exact k
      refine OFin.go S14 ?_
      by_cases h15 : ((sf 0) = (0 : Int64))
      · -- pc 73: ((sf 0) = (0 : Int64))
        have S16 : ∀ t, Steps p.tables e below (T7.setTop (mkF m 76 #[.val (.ref o0), .val (.ref sa), .val (.long aa), .second, .val (.int cd), .val (.long qq), .second, .val (.long val), .second, .val (.int (cd &&& (3 : Int32))), .val (.long (keyF aa ((cd.toUInt32 >>> ((2 : Int32) &&& 31).toUInt32).toInt32))), .second] [])) t → Steps p.tables e below (T7.setTop (mkF m 73 #[.val (.ref o0), .val (.ref sa), .val (.long aa), .second, .val (.int cd), .val (.long qq), .second, .val (.long val), .second, .val (.int (cd &&& (3 : Int32))), .val (.long (keyF aa ((cd.toUInt32 >>> ((2 : Int32) &&& 31).toUInt32).toInt32))), .second] [(.int (lcmpW (sf 0) (0 : Int64)))])) t := by
          intro t k
          show Steps p.tables e below (T7.setTop (mkF m 73 #[.val (.ref o0), .val (.ref sa), .val (.long aa), .second, .val (.int cd), .val (.long qq), .second, .val (.long val), .second, .val (.int (cd &&& (3 : Int32))), .val (.long (keyF aa ((cd.toUInt32 >>> ((2 : Int32) &&& 31).toUInt32).toInt32))), .second] [(.int (lcmpW (sf 0) (0 : Int64)))])) t
          refine XS.ifNo X7.here hx rfl (hb hby d6_73) rfl (lc_ne_f h15) ?_
          exact k
        refine OFin.go S16 ?_
        have S17 : ∀ t, Steps p.tables e below (T7.setTop (mkF m 79 #[.val (.ref o0), .val (.ref sa), .val (.long aa), .second, .val (.int cd), .val (.long qq), .second, .val (.long val), .second, .val (.int (cd &&& (3 : Int32))), .val (.long (keyF aa ((cd.toUInt32 >>> ((2 : Int32) &&& 31).toUInt32).toInt32))), .second] [(.long (1 : Int64)), (.int (0 : Int32)), (.ref sa)])) t → Steps p.tables e below (T7.setTop (mkF m 76 #[.val (.ref o0), .val (.ref sa), .val (.long aa), .second, .val (.int cd), .val (.long qq), .second, .val (.long val), .second, .val (.int (cd &&& (3 : Int32))), .val (.long (keyF aa ((cd.toUInt32 >>> ((2 : Int32) &&& 31).toUInt32).toInt32))), .second] [])) t := by
          intro t k
          show Steps p.tables e below (T7.setTop (mkF m 76 #[.val (.ref o0), .val (.ref sa), .val (.long aa), .second, .val (.int cd), .val (.long qq), .second, .val (.long val), .second, .val (.int (cd &&& (3 : Int32))), .val (.long (keyF aa ((cd.toUInt32 >>> ((2 : Int32) &&& 31).toUInt32).toInt32))), .second] [])) t
          refine XS.aloadN X7.here hx rfl (hb hby d6_76) rfl rfl ?_
          show Steps p.tables e below (T7.setTop (mkF m 77 #[.val (.ref o0), .val (.ref sa), .val (.long aa), .second, .val (.int cd), .val (.long qq), .second, .val (.long val), .second, .val (.int (cd &&& (3 : Int32))), .val (.long (keyF aa ((cd.toUInt32 >>> ((2 : Int32) &&& 31).toUInt32).toInt32))), .second] [(.ref sa)])) t
          refine XS.iconst X7.here hx rfl (hb hby d6_77) ?_
          show Steps p.tables e below (T7.setTop (mkF m 78 #[.val (.ref o0), .val (.ref sa), .val (.long aa), .second, .val (.int cd), .val (.long qq), .second, .val (.long val), .second, .val (.int (cd &&& (3 : Int32))), .val (.long (keyF aa ((cd.toUInt32 >>> ((2 : Int32) &&& 31).toUInt32).toInt32))), .second] [(.int (0 : Int32)), (.ref sa)])) t
          refine XS.lconst X7.here hx rfl (hb hby d6_78) ?_
          exact k
        refine OFin.go S17 ?_
        obtain ⟨T18, h18, X18, e18, W18, st18⟩ := wrJ X7 hx hZ rfl F13 (i := 0) (by decide) rfl (by decide) (g := (mkF m 79 #[.val (.ref o0), .val (.ref sa), .val (.long aa), .second, .val (.int cd), .val (.long qq), .second, .val (.long val), .second, .val (.int (cd &&& (3 : Int32))), .val (.long (keyF aa ((cd.toUInt32 >>> ((2 : Int32) &&& 31).toUInt32).toInt32))), .second] [(.long (1 : Int64)), (.int (0 : Int32)), (.ref sa)])) rfl rfl (hb hby d6_79)
        have V18 := F13.set W18
        have N18 := Fr.snoc X18 N7 ges
        have Z18 : n0 ≤ h18.size := Nat.le_trans Z7 (wr_le W18)
        have K18 := Keep.wr K7 W18 (Or.inl (.head _))
        refine OFin.go st18 ?_
        show OFin p e below _ (T18.setTop (mkF m 80 #[.val (.ref o0), .val (.ref sa), .val (.long aa), .second, .val (.int cd), .val (.long qq), .second, .val (.long val), .second, .val (.int (cd &&& (3 : Int32))), .val (.long (keyF aa ((cd.toUInt32 >>> ((2 : Int32) &&& 31).toUInt32).toInt32))), .second] []))
        have S19 : ∀ t, Steps p.tables e below (T18.setTop (mkF m 83 #[.val (.ref o0), .val (.ref sa), .val (.long aa), .second, .val (.int cd), .val (.long qq), .second, .val (.long val), .second, .val (.int (cd &&& (3 : Int32))), .val (.long (keyF aa ((cd.toUInt32 >>> ((2 : Int32) &&& 31).toUInt32).toInt32))), .second] [(.long (0 : Int64)), (.int (1 : Int32)), (.ref sa)])) t → Steps p.tables e below (T18.setTop (mkF m 80 #[.val (.ref o0), .val (.ref sa), .val (.long aa), .second, .val (.int cd), .val (.long qq), .second, .val (.long val), .second, .val (.int (cd &&& (3 : Int32))), .val (.long (keyF aa ((cd.toUInt32 >>> ((2 : Int32) &&& 31).toUInt32).toInt32))), .second] [])) t := by
          intro t k
          show Steps p.tables e below (T18.setTop (mkF m 80 #[.val (.ref o0), .val (.ref sa), .val (.long aa), .second, .val (.int cd), .val (.long qq), .second, .val (.long val), .second, .val (.int (cd &&& (3 : Int32))), .val (.long (keyF aa ((cd.toUInt32 >>> ((2 : Int32) &&& 31).toUInt32).toInt32))), .second] [])) t
          refine XS.aloadN X18.here hx rfl (hb hby d6_80) rfl rfl ?_
          show Steps p.tables e below (T18.setTop (mkF m 81 #[.val (.ref o0), .val (.ref sa), .val (.long aa), .second, .val (.int cd), .val (.long qq), .second, .val (.long val), .second, .val (.int (cd &&& (3 : Int32))), .val (.long (keyF aa ((cd.toUInt32 >>> ((2 : Int32) &&& 31).toUInt32).toInt32))), .second] [(.ref sa)])) t
          refine XS.iconst X18.here hx rfl (hb hby d6_81) ?_
          show Steps p.tables e below (T18.setTop (mkF m 82 #[.val (.ref o0), .val (.ref sa), .val (.long aa), .second, .val (.int cd), .val (.long qq), .second, .val (.long val), .second, .val (.int (cd &&& (3 : Int32))), .val (.long (keyF aa ((cd.toUInt32 >>> ((2 : Int32) &&& 31).toUInt32).toInt32))), .second] [(.int (1 : Int32)), (.ref sa)])) t
          refine XS.lconst X18.here hx rfl (hb hby d6_82) ?_
          exact k
        refine OFin.go S19 ?_
        obtain ⟨T20, h20, X20, e20, W20, st20⟩ := wrJ X18 hx hZ e18 V18 (i := 1) (by decide) rfl (by decide) (g := (mkF m 83 #[.val (.ref o0), .val (.ref sa), .val (.long aa), .second, .val (.int cd), .val (.long qq), .second, .val (.long val), .second, .val (.int (cd &&& (3 : Int32))), .val (.long (keyF aa ((cd.toUInt32 >>> ((2 : Int32) &&& 31).toUInt32).toInt32))), .second] [(.long (0 : Int64)), (.int (1 : Int32)), (.ref sa)])) rfl rfl (hb hby d6_83)
        have V20 := V18.set W20
        have N20 := Fr.snoc X20 N18 ges
        have Z20 : n0 ≤ h20.size := Nat.le_trans Z18 (wr_le W20)
        have K20 := Keep.wr K18 W20 (Or.inl (.head _))
        refine OFin.go st20 ?_
        show OFin p e below _ (T20.setTop (mkF m 84 #[.val (.ref o0), .val (.ref sa), .val (.long aa), .second, .val (.int cd), .val (.long qq), .second, .val (.long val), .second, .val (.int (cd &&& (3 : Int32))), .val (.long (keyF aa ((cd.toUInt32 >>> ((2 : Int32) &&& 31).toUInt32).toInt32))), .second] []))
        have S21 : ∀ t, Steps p.tables e below (T20.setTop (mkF m 113 #[.val (.ref o0), .val (.ref sa), .val (.long aa), .second, .val (.int cd), .val (.long qq), .second, .val (.long val), .second, .val (.int (cd &&& (3 : Int32))), .val (.long (keyF aa ((cd.toUInt32 >>> ((2 : Int32) &&& 31).toUInt32).toInt32))), .second] [])) t → Steps p.tables e below (T20.setTop (mkF m 84 #[.val (.ref o0), .val (.ref sa), .val (.long aa), .second, .val (.int cd), .val (.long qq), .second, .val (.long val), .second, .val (.int (cd &&& (3 : Int32))), .val (.long (keyF aa ((cd.toUInt32 >>> ((2 : Int32) &&& 31).toUInt32).toInt32))), .second] [])) t := by
          intro t k
          show Steps p.tables e below (T20.setTop (mkF m 84 #[.val (.ref o0), .val (.ref sa), .val (.long aa), .second, .val (.int cd), .val (.long qq), .second, .val (.long val), .second, .val (.int (cd &&& (3 : Int32))), .val (.long (keyF aa ((cd.toUInt32 >>> ((2 : Int32) &&& 31).toUInt32).toInt32))), .second] [])) t
          refine XS.goto X20.here hx rfl (pc0 := 84) (pc' := 113) rfl (hb hby d6_84) (by decide) (by decide) ?_
          exact k
        refine OFin.go S21 ?_
        have F22 := TBL.keep Tb7 (Keep.of_wr W18) (allS (fun q => (sb7 _ q).elim hsa (fun r => absurd Va.lt (Nat.not_lt.mpr r))) all0)
        have F23 := TBL.keep F22 (Keep.of_wr W20) (allS (fun q => (sb7 _ q).elim hsa (fun r => absurd Va.lt (Nat.not_lt.mpr r))) all0)
        exact finV X20 hx Bd.notSynchronized Bd.returns (hb hby d6_113) (by decide) (by decide) (by rw [e20]; exact ⟨Wl7, (addM (keyF aa ((cd.toUInt32 >>> ((2 : Int32) &&& 31).toUInt32).toInt32)) M), (upd (upd sf 0 1) 1 0), rfl, N20, K20, F23, V20.congr (fun i _ => own_updl2 sf _ _ i), (fun q => (sb7 _ q).elim hsa (fun r => absurd Va.lt (Nat.not_lt.mpr r))), STI.add0 hI h9 h15⟩)
      · -- pc 73: not ((sf 0) = (0 : Int64))
        have S24 : ∀ t, Steps p.tables e below (T7.setTop (mkF m 113 #[.val (.ref o0), .val (.ref sa), .val (.long aa), .second, .val (.int cd), .val (.long qq), .second, .val (.long val), .second, .val (.int (cd &&& (3 : Int32))), .val (.long (keyF aa ((cd.toUInt32 >>> ((2 : Int32) &&& 31).toUInt32).toInt32))), .second] [])) t → Steps p.tables e below (T7.setTop (mkF m 73 #[.val (.ref o0), .val (.ref sa), .val (.long aa), .second, .val (.int cd), .val (.long qq), .second, .val (.long val), .second, .val (.int (cd &&& (3 : Int32))), .val (.long (keyF aa ((cd.toUInt32 >>> ((2 : Int32) &&& 31).toUInt32).toInt32))), .second] [(.int (lcmpW (sf 0) (0 : Int64)))])) t := by
          intro t k
          show Steps p.tables e below (T7.setTop (mkF m 73 #[.val (.ref o0), .val (.ref sa), .val (.long aa), .second, .val (.int cd), .val (.long qq), .second, .val (.long val), .second, .val (.int (cd &&& (3 : Int32))), .val (.long (keyF aa ((cd.toUInt32 >>> ((2 : Int32) &&& 31).toUInt32).toInt32))), .second] [(.int (lcmpW (sf 0) (0 : Int64)))])) t
          refine XS.ifYes X7.here hx rfl (pc0 := 73) (pc' := 113) rfl (hb hby d6_73) rfl (lc_ne_t h15) (by decide) (by decide) ?_
          exact k
        refine OFin.go S24 ?_
        exact finV X7 hx Bd.notSynchronized Bd.returns (hb hby d6_113) (by decide) (by decide) (by exact ⟨Wl7, (addM (keyF aa ((cd.toUInt32 >>> ((2 : Int32) &&& 31).toUInt32).toInt32)) M), sf, rfl, N7, K7, Tb7, F13, (fun q => (sb7 _ q).elim hsa (fun r => absurd Va.lt (Nat.not_lt.mpr r))), STI.add1 hI h9 h15⟩)
    · -- pc 60: not ((keyF aa ((cd.toUInt32 >>> ((2 : Int32) &&& 31).toUInt32).toInt32)) = qq)
      have S25 : ∀ t, Steps p.tables e below (T7.setTop (mkF m 113 #[.val (.ref o0), .val (.ref sa), .val (.long aa), .second, .val (.int cd), .val (.long qq), .second, .val (.long val), .second, .val (.int (cd &&& (3 : Int32))), .val (.long (keyF aa ((cd.toUInt32 >>> ((2 : Int32) &&& 31).toUInt32).toInt32))), .second] [])) t → Steps p.tables e below (T7.setTop (mkF m 60 #[.val (.ref o0), .val (.ref sa), .val (.long aa), .second, .val (.int cd), .val (.long qq), .second, .val (.long val), .second, .val (.int (cd &&& (3 : Int32))), .val (.long (keyF aa ((cd.toUInt32 >>> ((2 : Int32) &&& 31).toUInt32).toInt32))), .second] [(.int (lcmpW (keyF aa ((cd.toUInt32 >>> ((2 : Int32) &&& 31).toUInt32).toInt32)) qq))])) t := by
        intro t k
        show Steps p.tables e below (T7.setTop (mkF m 60 #[.val (.ref o0), .val (.ref sa), .val (.long aa), .second, .val (.int cd), .val (.long qq), .second, .val (.long val), .second, .val (.int (cd &&& (3 : Int32))), .val (.long (keyF aa ((cd.toUInt32 >>> ((2 : Int32) &&& 31).toUInt32).toInt32))), .second] [(.int (lcmpW (keyF aa ((cd.toUInt32 >>> ((2 : Int32) &&& 31).toUInt32).toInt32)) qq))])) t
        refine XS.ifYes X7.here hx rfl (pc0 := 60) (pc' := 113) rfl (hb hby d6_60) rfl (lc_ne_t h9) (by decide) (by decide) ?_
        exact k
      refine OFin.go S25 ?_
      have F26 := Va.keep K7q hsa
      exact finV X7 hx Bd.notSynchronized Bd.returns (hb hby d6_113) (by decide) (by decide) (by exact ⟨Wl7, (addM (keyF aa ((cd.toUInt32 >>> ((2 : Int32) &&& 31).toUInt32).toInt32)) M), sf, rfl, N7, K7, Tb7, F26, (fun q => (sb7 _ q).elim hsa (fun r => absurd Va.lt (Nat.not_lt.mpr r))), STI.oth hI (addM_l _) h9⟩)
  · -- pc 18: not ((cd &&& (3 : Int32)) = (0 : Int32))
    have S27 : ∀ t, Steps p.tables e below (T2.setTop (mkF m 31 #[.val (.ref o0), .val (.ref sa), .val (.long aa), .second, .val (.int cd), .val (.long qq), .second, .val (.long val), .second, .val (.int (cd &&& (3 : Int32))), .val (.long (keyF aa ((cd.toUInt32 >>> ((2 : Int32) &&& 31).toUInt32).toInt32))), .second] [])) t → Steps p.tables e below (T2.setTop (mkF m 18 #[.val (.ref o0), .val (.ref sa), .val (.long aa), .second, .val (.int cd), .val (.long qq), .second, .val (.long val), .second, .val (.int (cd &&& (3 : Int32))), .val (.long (keyF aa ((cd.toUInt32 >>> ((2 : Int32) &&& 31).toUInt32).toInt32))), .second] [(.int (cd &&& (3 : Int32)))])) t := by
      intro t k
      show Steps p.tables e below (T2.setTop (mkF m 18 #[.val (.ref o0), .val (.ref sa), .val (.long aa), .second, .val (.int cd), .val (.long qq), .second, .val (.long val), .second, .val (.int (cd &&& (3 : Int32))), .val (.long (keyF aa ((cd.toUInt32 >>> ((2 : Int32) &&& 31).toUInt32).toInt32))), .second] [(.int (cd &&& (3 : Int32)))])) t
      refine XS.ifYes X2.here hx rfl (pc0 := 18) (pc' := 31) rfl (hb hby d6_18) rfl ((if0 _ _).trans (feq h4).2) (by decide) (by decide) ?_
      exact k
    refine OFin.go S27 ?_
    have S28 : ∀ t, Steps p.tables e below (T2.setTop (mkF m 34 #[.val (.ref o0), .val (.ref sa), .val (.long aa), .second, .val (.int cd), .val (.long qq), .second, .val (.long val), .second, .val (.int (cd &&& (3 : Int32))), .val (.long (keyF aa ((cd.toUInt32 >>> ((2 : Int32) &&& 31).toUInt32).toInt32))), .second] [(.int (2 : Int32)), (.int (cd &&& (3 : Int32)))])) t → Steps p.tables e below (T2.setTop (mkF m 31 #[.val (.ref o0), .val (.ref sa), .val (.long aa), .second, .val (.int cd), .val (.long qq), .second, .val (.long val), .second, .val (.int (cd &&& (3 : Int32))), .val (.long (keyF aa ((cd.toUInt32 >>> ((2 : Int32) &&& 31).toUInt32).toInt32))), .second] [])) t := by
      intro t k
      show Steps p.tables e below (T2.setTop (mkF m 31 #[.val (.ref o0), .val (.ref sa), .val (.long aa), .second, .val (.int cd), .val (.long qq), .second, .val (.long val), .second, .val (.int (cd &&& (3 : Int32))), .val (.long (keyF aa ((cd.toUInt32 >>> ((2 : Int32) &&& 31).toUInt32).toInt32))), .second] [])) t
      refine XS.iload X2.here hx rfl (hb hby d6_31) rfl ?_
      show Steps p.tables e below (T2.setTop (mkF m 33 #[.val (.ref o0), .val (.ref sa), .val (.long aa), .second, .val (.int cd), .val (.long qq), .second, .val (.long val), .second, .val (.int (cd &&& (3 : Int32))), .val (.long (keyF aa ((cd.toUInt32 >>> ((2 : Int32) &&& 31).toUInt32).toInt32))), .second] [(.int (cd &&& (3 : Int32)))])) t
      refine XS.iconst X2.here hx rfl (hb hby d6_33) ?_
      exact k
    refine OFin.go S28 ?_
    by_cases h29 : ((cd &&& (3 : Int32)) = (2 : Int32))
    · -- pc 34: ((cd &&& (3 : Int32)) = (2 : Int32))
      have S30 : ∀ t, Steps p.tables e below (T2.setTop (mkF m 37 #[.val (.ref o0), .val (.ref sa), .val (.long aa), .second, .val (.int cd), .val (.long qq), .second, .val (.long val), .second, .val (.int (cd &&& (3 : Int32))), .val (.long (keyF aa ((cd.toUInt32 >>> ((2 : Int32) &&& 31).toUInt32).toInt32))), .second] [])) t → Steps p.tables e below (T2.setTop (mkF m 34 #[.val (.ref o0), .val (.ref sa), .val (.long aa), .second, .val (.int cd), .val (.long qq), .second, .val (.long val), .second, .val (.int (cd &&& (3 : Int32))), .val (.long (keyF aa ((cd.toUInt32 >>> ((2 : Int32) &&& 31).toUInt32).toInt32))), .second] [(.int (2 : Int32)), (.int (cd &&& (3 : Int32)))])) t := by
        intro t k
        show Steps p.tables e below (T2.setTop (mkF m 34 #[.val (.ref o0), .val (.ref sa), .val (.long aa), .second, .val (.int cd), .val (.long qq), .second, .val (.long val), .second, .val (.int (cd &&& (3 : Int32))), .val (.long (keyF aa ((cd.toUInt32 >>> ((2 : Int32) &&& 31).toUInt32).toInt32))), .second] [(.int (2 : Int32)), (.int (cd &&& (3 : Int32)))])) t
        refine XS.icmpNo X2.here hx rfl (hb hby d6_34) rfl (teq h29).2 ?_
        exact k
      refine OFin.go S30 ?_
      have S31 : ∀ t, Steps p.tables e below (T2.setTop (mkF m 40 #[.val (.ref o0), .val (.ref sa), .val (.long aa), .second, .val (.int cd), .val (.long qq), .second, .val (.long val), .second, .val (.int (cd &&& (3 : Int32))), .val (.long (keyF aa ((cd.toUInt32 >>> ((2 : Int32) &&& 31).toUInt32).toInt32))), .second] [(.long (keyF aa ((cd.toUInt32 >>> ((2 : Int32) &&& 31).toUInt32).toInt32))), (.ref o0)])) t → Steps p.tables e below (T2.setTop (mkF m 37 #[.val (.ref o0), .val (.ref sa), .val (.long aa), .second, .val (.int cd), .val (.long qq), .second, .val (.long val), .second, .val (.int (cd &&& (3 : Int32))), .val (.long (keyF aa ((cd.toUInt32 >>> ((2 : Int32) &&& 31).toUInt32).toInt32))), .second] [])) t := by
        intro t k
        show Steps p.tables e below (T2.setTop (mkF m 37 #[.val (.ref o0), .val (.ref sa), .val (.long aa), .second, .val (.int cd), .val (.long qq), .second, .val (.long val), .second, .val (.int (cd &&& (3 : Int32))), .val (.long (keyF aa ((cd.toUInt32 >>> ((2 : Int32) &&& 31).toUInt32).toInt32))), .second] [])) t
        refine XS.aloadN X2.here hx rfl (hb hby d6_37) rfl rfl ?_
        show Steps p.tables e below (T2.setTop (mkF m 38 #[.val (.ref o0), .val (.ref sa), .val (.long aa), .second, .val (.int cd), .val (.long qq), .second, .val (.long val), .second, .val (.int (cd &&& (3 : Int32))), .val (.long (keyF aa ((cd.toUInt32 >>> ((2 : Int32) &&& 31).toUInt32).toInt32))), .second] [(.ref o0)])) t
        refine XS.lload X2.here hx rfl (hb hby d6_38) rfl ?_
        exact k
      refine OFin.go S31 ?_
      obtain ⟨_, T32, Lc32, X32, hQ32, st32⟩ := virtQ X2 hx hZ (y := (⟨"com/example/clockwrap/clockwrap/store/LongTable", "remove", "(J)Z"⟩ : MethodName)) hown (hw _ (List.mem_of_getElem? (i := 38) rfl)) (hw _ (List.mem_of_getElem? (i := 40) rfl)) (hw _ (List.mem_of_getElem? (i := 2) rfl)) (hw _ (List.mem_of_getElem? (i := 42) rfl)) (hw _ (List.mem_of_getElem? (i := 39) rfl)) (hw _ (List.mem_of_getElem? (i := 41) rfl)) (by decide) hT.exa (argsL := [(.long (keyF aa ((cd.toUInt32 >>> ((2 : Int32) &&& 31).toUInt32).toInt32)))]) (rest := []) (rm7 l Z a0 hw [] o0 (keyF aa ((cd.toUInt32 >>> ((2 : Int32) &&& 31).toUInt32).toInt32)) Wl mm M h0 n0 Z0 hT hmm) (W := 0) (by decide) (by decide) e2 (g := (mkF m 40 #[.val (.ref o0), .val (.ref sa), .val (.long aa), .second, .val (.int cd), .val (.long qq), .second, .val (.long val), .second, .val (.int (cd &&& (3 : Int32))), .val (.long (keyF aa ((cd.toUInt32 >>> ((2 : Int32) &&& 31).toUInt32).toInt32))), .second] [(.long (keyF aa ((cd.toUInt32 >>> ((2 : Int32) &&& 31).toUInt32).toInt32))), (.ref o0)])) rfl (by rw [hml]; rfl) (lenOf pd_6 rfl) rfl (by show 2 * 0 + _ ≤ _; exact Nat.le_of_eq rfl) (hb hby d6_40) (Nat.le_of_ble_eq_true rfl) (Nat.le_of_ble_eq_true rfl)
      obtain ⟨bb32, Wl32, rfl, N32q, K32q, Tb32, sb32⟩ := hQ32
      have Z32 : n0 ≤ T32.heap.size := Nat.le_trans Z0 K32q.1
      have K32 := Keep.trans K0 K32q (fun x q => Or.inl (.tail _ q))
      have N32 := Fr.app N2 N32q
      refine OFin.go st32 ?_
      show OFin p e below _ (T32.setTop (mkF m 43 #[.val (.ref o0), .val (.ref sa), .val (.long aa), .second, .val (.int cd), .val (.long qq), .second, .val (.long val), .second, .val (.int (cd &&& (3 : Int32))), .val (.long (keyF aa ((cd.toUInt32 >>> ((2 : Int32) &&& 31).toUInt32).toInt32))), .second] [(.int bb32)]))
      have S33 : ∀ t, Steps p.tables e below (T32.setTop (mkF m 60 #[.val (.ref o0), .val (.ref sa), .val (.long aa), .second, .val (.int cd), .val (.long qq), .second, .val (.long val), .second, .val (.int (cd &&& (3 : Int32))), .val (.long (keyF aa ((cd.toUInt32 >>> ((2 : Int32) &&& 31).toUInt32).toInt32))), .second] [(.int (lcmpW (keyF aa ((cd.toUInt32 >>> ((2 : Int32) &&& 31).toUInt32).toInt32)) qq))])) t → Steps p.tables e below (T32.setTop (mkF m 43 #[.val (.ref o0), .val (.ref sa), .val (.long aa), .second, .val (.int cd), .val (.long qq), .second, .val (.long val), .second, .val (.int (cd &&& (3 : Int32))), .val (.long (keyF aa ((cd.toUInt32 >>> ((2 : Int32) &&& 31).toUInt32).toInt32))), .second] [(.int bb32)])) t := by
        intro t k
        show Steps p.tables e below (T32.setTop (mkF m 43 #[.val (.ref o0), .val (.ref sa), .val (.long aa), .second, .val (.int cd), .val (.long qq), .second, .val (.long val), .second, .val (.int (cd &&& (3 : Int32))), .val (.long (keyF aa ((cd.toUInt32 >>> ((2 : Int32) &&& 31).toUInt32).toInt32))), .second] [(.int bb32)])) t
        refine XS.pop X32.here hx rfl (hb hby d6_43) rfl rfl ?_
        show Steps p.tables e below (T32.setTop (mkF m 44 #[.val (.ref o0), .val (.ref sa), .val (.long aa), .second, .val (.int cd), .val (.long qq), .second, .val (.long val), .second, .val (.int (cd &&& (3 : Int32))), .val (.long (keyF aa ((cd.toUInt32 >>> ((2 : Int32) &&& 31).toUInt32).toInt32))), .second] [])) t
        refine XS.goto X32.here hx rfl (pc0 := 44) (pc' := 55) rfl (hb hby d6_44) (by decide) (by decide) ?_
        show Steps p.tables e below (T32.setTop (mkF m 55 #[.val (.ref o0), .val (.ref sa), .val (.long aa), .second, .val (.int cd), .val (.long qq), .second, .val (.long val), .second, .val (.int (cd &&& (3 : Int32))), .val (.long (keyF aa ((cd.toUInt32 >>> ((2 : Int32) &&& 31).toUInt32).toInt32))), .second] [])) t
        refine XS.lload X32.here hx rfl (hb hby d6_55) rfl ?_
        show Steps p.tables e below (T32.setTop (mkF m 57 #[.val (.ref o0), .val (.ref sa), .val (.long aa), .second, .val (.int cd), .val (.long qq), .second, .val (.long val), .second, .val (.int (cd &&& (3 : Int32))), .val (.long (keyF aa ((cd.toUInt32 >>> ((2 : Int32) &&& 31).toUInt32).toInt32))), .second] [(.long (keyF aa ((cd.toUInt32 >>> ((2 : Int32) &&& 31).toUInt32).toInt32)))])) t
        refine XS.lload X32.here hx rfl (hb hby d6_57) rfl ?_
        show Steps p.tables e below (T32.setTop (mkF m 59 #[.val (.ref o0), .val (.ref sa), .val (.long aa), .second, .val (.int cd), .val (.long qq), .second, .val (.long val), .second, .val (.int (cd &&& (3 : Int32))), .val (.long (keyF aa ((cd.toUInt32 >>> ((2 : Int32) &&& 31).toUInt32).toInt32))), .second] [(.long qq), (.long (keyF aa ((cd.toUInt32 >>> ((2 : Int32) &&& 31).toUInt32).toInt32)))])) t
        refine XS.lcmp X32.here hx rfl (hb hby d6_59) rfl ?_
        exact k
      refine OFin.go S33 ?_
      by_cases h34 : ((keyF aa ((cd.toUInt32 >>> ((2 : Int32) &&& 31).toUInt32).toInt32)) = qq)
      · -- pc 60: ((keyF aa ((cd.toUInt32 >>> ((2 : Int32) &&& 31).toUInt32).toInt32)) = qq)
        have S35 : ∀ t, Steps p.tables e below (T32.setTop (mkF m 63 #[.val (.ref o0), .val (.ref sa), .val (.long aa), .second, .val (.int cd), .val (.long qq), .second, .val (.long val), .second, .val (.int (cd &&& (3 : Int32))), .val (.long (keyF aa ((cd.toUInt32 >>> ((2 : Int32) &&& 31).toUInt32).toInt32))), .second] [])) t → Steps p.tables e below (T32.setTop (mkF m 60 #[.val (.ref o0), .val (.ref sa), .val (.long aa), .second, .val (.int cd), .val (.long qq), .second, .val (.long val), .second, .val (.int (cd &&& (3 : Int32))), .val (.long (keyF aa ((cd.toUInt32 >>> ((2 : Int32) &&& 31).toUInt32).toInt32))), .second] [(.int (lcmpW (keyF aa ((cd.toUInt32 >>> ((2 : Int32) &&& 31).toUInt32).toInt32)) qq))])) t := by
          intro t k
          show Steps p.tables e below (T32.setTop (mkF m 60 #[.val (.ref o0), .val (.ref sa), .val (.long aa), .second, .val (.int cd), .val (.long qq), .second, .val (.long val), .second, .val (.int (cd &&& (3 : Int32))), .val (.long (keyF aa ((cd.toUInt32 >>> ((2 : Int32) &&& 31).toUInt32).toInt32))), .second] [(.int (lcmpW (keyF aa ((cd.toUInt32 >>> ((2 : Int32) &&& 31).toUInt32).toInt32)) qq))])) t
          refine XS.ifNo X32.here hx rfl (hb hby d6_60) rfl (lc_ne_f h34) ?_
          exact k
        refine OFin.go S35 ?_
        have S36 : ∀ t, Steps p.tables e below (T32.setTop (mkF m 65 #[.val (.ref o0), .val (.ref sa), .val (.long aa), .second, .val (.int cd), .val (.long qq), .second, .val (.long val), .second, .val (.int (cd &&& (3 : Int32))), .val (.long (keyF aa ((cd.toUInt32 >>> ((2 : Int32) &&& 31).toUInt32).toInt32))), .second] [(.int (cd &&& (3 : Int32)))])) t → Steps p.tables e below (T32.setTop (mkF m 63 #[.val (.ref o0), .val (.ref sa), .val (.long aa), .second, .val (.int cd), .val (.long qq), .second, .val (.long val), .second, .val (.int (cd &&& (3 : Int32))), .val (.long (keyF aa ((cd.toUInt32 >>> ((2 : Int32) &&& 31).toUInt32).toInt32))), .second] [])) t := by
          intro t k
          show Steps p.tables e below (T32.setTop (mkF m 63 #[.val (.ref o0), .val (.ref sa), .val (.long aa), .second, .val (.int cd), .val (.long qq), .second, .val (.long val), .second, .val (.int (cd &&& (3 : Int32))), .val (.long (keyF aa ((cd.toUInt32 >>> ((2 : Int32) &&& 31).toUInt32).toInt32))), .second] [])) t
          refine XS.iload X32.here hx rfl (hb hby d6_63) rfl ?_
          exact k
        refine OFin.go S36 ?_
        have S37 : ∀ t, Steps p.tables e below (T32.setTop (mkF m 87 #[.val (.ref o0), .val (.ref sa), .val (.long aa), .second, .val (.int cd), .val (.long qq), .second, .val (.long val), .second, .val (.int (cd &&& (3 : Int32))), .val (.long (keyF aa ((cd.toUInt32 >>> ((2 : Int32) &&& 31).toUInt32).toInt32))), .second] [])) t → Steps p.tables e below (T32.setTop (mkF m 65 #[.val (.ref o0), .val (.ref sa), .val (.long aa), .second, .val (.int cd), .val (.long qq), .second, .val (.long val), .second, .val (.int (cd &&& (3 : Int32))), .val (.long (keyF aa ((cd.toUInt32 >>> ((2 : Int32) &&& 31).toUInt32).toInt32))), .second] [(.int (cd &&& (3 : Int32)))])) t := by
          intro t k
          show Steps p.tables e below (T32.setTop (mkF m 65 #[.val (.ref o0), .val (.ref sa), .val (.long aa), .second, .val (.int cd), .val (.long qq), .second, .val (.long val), .second, .val (.int (cd &&& (3 : Int32))), .val (.long (keyF aa ((cd.toUInt32 >>> ((2 : Int32) &&& 31).toUInt32).toInt32))), .second] [(.int (cd &&& (3 : Int32)))])) t
          refine XS.ifYes X32.here hx rfl (pc0 := 65) (pc' := 87) rfl (hb hby d6_65) rfl ((if0 _ _).trans (feq h4).2) (by decide) (by decide) ?_
          exact k
        refine OFin.go S37 ?_
        have S38 : ∀ t, Steps p.tables e below (T32.setTop (mkF m 90 #[.val (.ref o0), .val (.ref sa), .val (.long aa), .second, .val (.int cd), .val (.long qq), .second, .val (.long val), .second, .val (.int (cd &&& (3 : Int32))), .val (.long (keyF aa ((cd.toUInt32 >>> ((2 : Int32) &&& 31).toUInt32).toInt32))), .second] [(.int (2 : Int32)), (.int (cd &&& (3 : Int32)))])) t → Steps p.tables e below (T32.setTop (mkF m 87 #[.val (.ref o0), .val (.ref sa), .val (.long aa), .second, .val (.int cd), .val (.long qq), .second, .val (.long val), .second, .val (.int (cd &&& (3 : Int32))), .val (.long (keyF aa ((cd.toUInt32 >>> ((2 : Int32) &&& 31).toUInt32).toInt32))), .second] [])) t := by
          intro t k
          show Steps p.tables e below (T32.setTop (mkF m 87 #[.val (.ref o0), .val (.ref sa), .val (.long aa), .second, .val (.int cd), .val (.long qq), .second, .val (.long val), .second, .val (.int (cd &&& (3 : Int32))), .val (.long (keyF aa ((cd.toUInt32 >>> ((2 : Int32) &&& 31).toUInt32).toInt32))), .second] [])) t
          refine XS.iload X32.here hx rfl (hb hby d6_87) rfl ?_
          show Steps p.tables e below (T32.setTop (mkF m 89 #[.val (.ref o0), .val (.ref sa), .val (.long aa), .second, .val (.int cd), .val (.long qq), .second, .val (.long val), .second, .val (.int (cd &&& (3 : Int32))), .val (.long (keyF aa ((cd.toUInt32 >>> ((2 : Int32) &&& 31).toUInt32).toInt32))), .second] [(.int (cd &&& (3 : Int32)))])) t
          refine XS.iconst X32.here hx rfl (hb hby d6_89) ?_
          exact k
        refine OFin.go S38 ?_
        have S39 : ∀ t, Steps p.tables e below (T32.setTop (mkF m 93 #[.val (.ref o0), .val (.ref sa), .val (.long aa), .second, .val (.int cd), .val (.long qq), .second, .val (.long val), .second, .val (.int (cd &&& (3 : Int32))), .val (.long (keyF aa ((cd.toUInt32 >>> ((2 : Int32) &&& 31).toUInt32).toInt32))), .second] [])) t → Steps p.tables e below (T32.setTop (mkF m 90 #[.val (.ref o0), .val (.ref sa), .val (.long aa), .second, .val (.int cd), .val (.long qq), .second, .val (.long val), .second, .val (.int (cd &&& (3 : Int32))), .val (.long (keyF aa ((cd.toUInt32 >>> ((2 : Int32) &&& 31).toUInt32).toInt32))), .second] [(.int (2 : Int32)), (.int (cd &&& (3 : Int32)))])) t := by
          intro t k
          show Steps p.tables e below (T32.setTop (mkF m 90 #[.val (.ref o0), .val (.ref sa), .val (.long aa), .second, .val (.int cd), .val (.long qq), .second, .val (.long val), .second, .val (.int (cd &&& (3 : Int32))), .val (.long (keyF aa ((cd.toUInt32 >>> ((2 : Int32) &&& 31).toUInt32).toInt32))), .second] [(.int (2 : Int32)), (.int (cd &&& (3 : Int32)))])) t
          refine XS.icmpNo X32.here hx rfl (hb hby d6_90) rfl (teq h29).2 ?_
          exact k
        refine OFin.go S39 ?_
        have S40 : ∀ t, Steps p.tables e below (T32.setTop (mkF m 96 #[.val (.ref o0), .val (.ref sa), .val (.long aa), .second, .val (.int cd), .val (.long qq), .second, .val (.long val), .second, .val (.int (cd &&& (3 : Int32))), .val (.long (keyF aa ((cd.toUInt32 >>> ((2 : Int32) &&& 31).toUInt32).toInt32))), .second] [(.long (0 : Int64)), (.int (0 : Int32)), (.ref sa)])) t → Steps p.tables e below (T32.setTop (mkF m 93 #[.val (.ref o0), .val (.ref sa), .val (.long aa), .second, .val (.int cd), .val (.long qq), .second, .val (.long val), .second, .val (.int (cd &&& (3 : Int32))), .val (.long (keyF aa ((cd.toUInt32 >>> ((2 : Int32) &&& 31).toUInt32).toInt32))), .second] [])) t := by
          intro t k
          show Steps p.tables e below (T32.setTop (mkF m 93 #[.val (.ref o0), .val (.ref sa), .val (.long aa), .second, .val (.int cd), .val (.long qq), .second, .val (.long val), .second, .val (.int (cd &&& (3 : Int32))), .val (.long (keyF aa ((cd.toUInt32 >>> ((2 : Int32) &&& 31).toUInt32).toInt32))), .second] [])) t
          refine XS.aloadN X32.here hx rfl (hb hby d6_93) rfl rfl ?_
          show Steps p.tables e below (T32.setTop (mkF m 94 #[.val (.ref o0), .val (.ref sa), .val (.long aa), .second, .val (.int cd), .val (.long qq), .second, .val (.long val), .second, .val (.int (cd &&& (3 : Int32))), .val (.long (keyF aa ((cd.toUInt32 >>> ((2 : Int32) &&& 31).toUInt32).toInt32))), .second] [(.ref sa)])) t
          refine XS.iconst X32.here hx rfl (hb hby d6_94) ?_
          show Steps p.tables e below (T32.setTop (mkF m 95 #[.val (.ref o0), .val (.ref sa), .val (.long aa), .second, .val (.int cd), .val (.long qq), .second, .val (.long val), .second, .val (.int (cd &&& (3 : Int32))), .val (.long (keyF aa ((cd.toUInt32 >>> ((2 : Int32) &&& 31).toUInt32).toInt32))), .second] [(.int (0 : Int32)), (.ref sa)])) t
          refine XS.lconst X32.here hx rfl (hb hby d6_95) ?_
          exact k
        refine OFin.go S40 ?_
        have F41 := Va.keep K32q hsa
        obtain ⟨T42, h42, X42, e42, W42, st42⟩ := wrJ X32 hx hZ rfl F41 (i := 0) (by decide) rfl (by decide) (g := (mkF m 96 #[.val (.ref o0), .val (.ref sa), .val (.long aa), .second, .val (.int cd), .val (.long qq), .second, .val (.long val), .second, .val (.int (cd &&& (3 : Int32))), .val (.long (keyF aa ((cd.toUInt32 >>> ((2 : Int32) &&& 31).toUInt32).toInt32))), .second] [(.long (0 : Int64)), (.int (0 : Int32)), (.ref sa)])) rfl rfl (hb hby d6_96)
        have V42 := F41.set W42
        have N42 := Fr.snoc X42 N32 ges
        have Z42 : n0 ≤ h42.size := Nat.le_trans Z32 (wr_le W42)
        have K42 := Keep.wr K32 W42 (Or.inl (.head _))
        refine OFin.go st42 ?_
        show OFin p e below _ (T42.setTop (mkF m 97 #[.val (.ref o0), .val (.ref sa), .val (.long aa), .second, .val (.int cd), .val (.long qq), .second, .val (.long val), .second, .val (.int (cd &&& (3 : Int32))), .val (.long (keyF aa ((cd.toUInt32 >>> ((2 : Int32) &&& 31).toUInt32).toInt32))), .second] []))
        have S43 : ∀ t, Steps p.tables e below (T42.setTop (mkF m 100 #[.val (.ref o0), .val (.ref sa), .val (.long aa), .second, .val (.int cd), .val (.long qq), .second, .val (.long val), .second, .val (.int (cd &&& (3 : Int32))), .val (.long (keyF aa ((cd.toUInt32 >>> ((2 : Int32) &&& 31).toUInt32).toInt32))), .second] [(.long (0 : Int64)), (.int (1 : Int32)), (.ref sa)])) t → Steps p.tables e below (T42.setTop (mkF m 97 #[.val (.ref o0), .val (.ref sa), .val (.long aa), .second, .val (.int cd), .val (.long qq), .second, .val (.long val), .second, .val (.int (cd &&& (3 : Int32))), .val (.long (keyF aa ((cd.toUInt32 >>> ((2 : Int32) &&& 31).toUInt32).toInt32))), .second] [])) t := by
          intro t k
          show Steps p.tables e below (T42.setTop (mkF m 97 #[.val (.ref o0), .val (.ref sa), .val (.long aa), .second, .val (.int cd), .val (.long qq), .second, .val (.long val), .second, .val (.int (cd &&& (3 : Int32))), .val (.long (keyF aa ((cd.toUInt32 >>> ((2 : Int32) &&& 31).toUInt32).toInt32))), .second] [])) t
          refine XS.aloadN X42.here hx rfl (hb hby d6_97) rfl rfl ?_
          show Steps p.tables e below (T42.setTop (mkF m 98 #[.val (.ref o0), .val (.ref sa), .val (.long aa), .second, .val (.int cd), .val (.long qq), .second, .val (.long val), .second, .val (.int (cd &&& (3 : Int32))), .val (.long (keyF aa ((cd.toUInt32 >>> ((2 : Int32) &&& 31).toUInt32).toInt32))), .second] [(.ref sa)])) t
          refine XS.iconst X42.here hx rfl (hb hby d6_98) ?_
          show Steps p.tables e below (T42.setTop (mkF m 99 #[.val (.ref o0), .val (.ref sa), .val (.long aa), .second, .val (.int cd), .val (.long qq), .second, .val (.long val), .second, .val (.int (cd &&& (3 : Int32))), .val (.long (keyF aa ((cd.toUInt32 >>> ((2 : Int32) &&& 31).toUInt32).toInt32))), .second] [(.int (1 : Int32)), (.ref sa)])) t
          refine XS.lconst X42.here hx rfl (hb hby d6_99) ?_
          exact k
        refine OFin.go S43 ?_
        obtain ⟨T44, h44, X44, e44, W44, st44⟩ := wrJ X42 hx hZ e42 V42 (i := 1) (by decide) rfl (by decide) (g := (mkF m 100 #[.val (.ref o0), .val (.ref sa), .val (.long aa), .second, .val (.int cd), .val (.long qq), .second, .val (.long val), .second, .val (.int (cd &&& (3 : Int32))), .val (.long (keyF aa ((cd.toUInt32 >>> ((2 : Int32) &&& 31).toUInt32).toInt32))), .second] [(.long (0 : Int64)), (.int (1 : Int32)), (.ref sa)])) rfl rfl (hb hby d6_100)
        have V44 := V42.set W44
        have N44 := Fr.snoc X44 N42 ges
        have Z44 : n0 ≤ h44.size := Nat.le_trans Z42 (wr_le W44)
        have K44 := Keep.wr K42 W44 (Or.inl (.head _))
        refine OFin.go st44 ?_
        show OFin p e below _ (T44.setTop (mkF m 101 #[.val (.ref o0), .val (.ref sa), .val (.long aa), .second, .val (.int cd), .val (.long qq), .second, .val (.long val), .second, .val (.int (cd &&& (3 : Int32))), .val (.long (keyF aa ((cd.toUInt32 >>> ((2 : Int32) &&& 31).toUInt32).toInt32))), .second] []))
        have S45 : ∀ t, Steps p.tables e below (T44.setTop (mkF m 113 #[.val (.ref o0), .val (.ref sa), .val (.long aa), .second, .val (.int cd), .val (.long qq), .second, .val (.long val), .second, .val (.int (cd &&& (3 : Int32))), .val (.long (keyF aa ((cd.toUInt32 >>> ((2 : Int32) &&& 31).toUInt32).toInt32))), .second] [])) t → Steps p.tables e below (T44.setTop (mkF m 101 #[.val (.ref o0), .val (.ref sa), .val (.long aa), .second, .val (.int cd), .val (.long qq), .second, .val (.long val), .second, .val (.int (cd &&& (3 : Int32))), .val (.long (keyF aa ((cd.toUInt32 >>> ((2 : Int32) &&& 31).toUInt32).toInt32))), .second] [])) t := by
          intro t k
          show Steps p.tables e below (T44.setTop (mkF m 101 #[.val (.ref o0), .val (.ref sa), .val (.long aa), .second, .val (.int cd), .val (.long qq), .second, .val (.long val), .second, .val (.int (cd &&& (3 : Int32))), .val (.long (keyF aa ((cd.toUInt32 >>> ((2 : Int32) &&& 31).toUInt32).toInt32))), .second] [])) t
          refine XS.goto X44.here hx rfl (pc0 := 101) (pc' := 113) rfl (hb hby d6_101) (by decide) (by decide) ?_
          exact k
        refine OFin.go S45 ?_
        have F46 := TBL.keep Tb32 (Keep.of_wr W42) (allS (fun q => (sb32 _ q).elim hsa (fun r => absurd Va.lt (Nat.not_lt.mpr r))) all0)
        have F47 := TBL.keep F46 (Keep.of_wr W44) (allS (fun q => (sb32 _ q).elim hsa (fun r => absurd Va.lt (Nat.not_lt.mpr r))) all0)
        exact finV X44 hx Bd.notSynchronized Bd.returns (hb hby d6_113) (by decide) (by decide) (by rw [e44]; exact ⟨Wl32, (remM (keyF aa ((cd.toUInt32 >>> ((2 : Int32) &&& 31).toUInt32).toInt32)) M), (upd (upd sf 0 0) 1 0), rfl, N44, K44, F47, V44.congr (fun i _ => own_updl2 sf _ _ i), (fun q => (sb32 _ q).elim hsa (fun r => absurd Va.lt (Nat.not_lt.mpr r))), STI.rem h34⟩)
      · -- pc 60: not ((keyF aa ((cd.toUInt32 >>> ((2 : Int32) &&& 31).toUInt32).toInt32)) = qq)
        have S48 : ∀ t, Steps p.tables e below (T32.setTop (mkF m 113 #[.val (.ref o0), .val (.ref sa), .val (.long aa), .second, .val (.int cd), .val (.long qq), .second, .val (.long val), .second, .val (.int (cd &&& (3 : Int32))), .val (.long (keyF aa ((cd.toUInt32 >>> ((2 : Int32) &&& 31).toUInt32).toInt32))), .second] [])) t → Steps p.tables e below (T32.setTop (mkF m 60 #[.val (.ref o0), .val (.ref sa), .val (.long aa), .second, .val (.int cd), .val (.long qq), .second, .val (.long val), .second, .val (.int (cd &&& (3 : Int32))), .val (.long (keyF aa ((cd.toUInt32 >>> ((2 : Int32) &&& 31).toUInt32).toInt32))), .second] [(.int (lcmpW (keyF aa ((cd.toUInt32 >>> ((2 : Int32) &&& 31).toUInt32).toInt32)) qq))])) t := by
          intro t k
          show Steps p.tables e below (T32.setTop (mkF m 60 #[.val (.ref o0), .val (.ref sa), .val (.long aa), .second, .val (.int cd), .val (.long qq), .second, .val (.long val), .second, .val (.int (cd &&& (3 : Int32))), .val (.long (keyF aa ((cd.toUInt32 >>> ((2 : Int32) &&& 31).toUInt32).toInt32))), .second] [(.int (lcmpW (keyF aa ((cd.toUInt32 >>> ((2 : Int32) &&& 31).toUInt32).toInt32)) qq))])) t
          refine XS.ifYes X32.here hx rfl (pc0 := 60) (pc' := 113) rfl (hb hby d6_60) rfl (lc_ne_t h34) (by decide) (by decide) ?_
          exact k
        refine OFin.go S48 ?_
        have F49 := Va.keep K32q hsa
        exact finV X32 hx Bd.notSynchronized Bd.returns (hb hby d6_113) (by decide) (by decide) (by exact ⟨Wl32, (remM (keyF aa ((cd.toUInt32 >>> ((2 : Int32) &&& 31).toUInt32).toInt32)) M), sf, rfl, N32, K32, Tb32, F49, (fun q => (sb32 _ q).elim hsa (fun r => absurd Va.lt (Nat.not_lt.mpr r))), STI.oth hI (remM_l _) h34⟩)
    · -- pc 34: not ((cd &&& (3 : Int32)) = (2 : Int32))
      have S50 : ∀ t, Steps p.tables e below (T2.setTop (mkF m 47 #[.val (.ref o0), .val (.ref sa), .val (.long aa), .second, .val (.int cd), .val (.long qq), .second, .val (.long val), .second, .val (.int (cd &&& (3 : Int32))), .val (.long (keyF aa ((cd.toUInt32 >>> ((2 : Int32) &&& 31).toUInt32).toInt32))), .second] [])) t → Steps p.tables e below (T2.setTop (mkF m 34 #[.val (.ref o0), .val (.ref sa), .val (.long aa), .second, .val (.int cd), .val (.long qq), .second, .val (.long val), .second, .val (.int (cd &&& (3 : Int32))), .val (.long (keyF aa ((cd.toUInt32 >>> ((2 : Int32) &&& 31).toUInt32).toInt32))), .second] [(.int (2 : Int32)), (.int (cd &&& (3 : Int32)))])) t := by
        intro t k
        show Steps p.tables e below (T2.setTop (mkF m 34 #[.val (.ref o0), .val (.ref sa), .val (.long aa), .second, .val (.int cd), .val (.long qq), .second, .val (.long val), .second, .val (.int (cd &&& (3 : Int32))), .val (.long (keyF aa ((cd.toUInt32 >>> ((2 : Int32) &&& 31).toUInt32).toInt32))), .second] [(.int (2 : Int32)), (.int (cd &&& (3 : Int32)))])) t
        refine XS.icmpYes X2.here hx rfl (pc0 := 34) (pc' := 47) rfl (hb hby d6_34) rfl (feq h29).2 (by decide) (by decide) ?_
        exact k
      refine OFin.go S50 ?_
      have S51 : ∀ t, Steps p.tables e below (T2.setTop (mkF m 52 #[.val (.ref o0), .val (.ref sa), .val (.long aa), .second, .val (.int cd), .val (.long qq), .second, .val (.long val), .second, .val (.int (cd &&& (3 : Int32))), .val (.long (keyF aa ((cd.toUInt32 >>> ((2 : Int32) &&& 31).toUInt32).toInt32))), .second] [(.long val), (.long (keyF aa ((cd.toUInt32 >>> ((2 : Int32) &&& 31).toUInt32).toInt32))), (.ref o0)])) t → Steps p.tables e below (T2.setTop (mkF m 47 #[.val (.ref o0), .val (.ref sa), .val (.long aa), .second, .val (.int cd), .val (.long qq), .second, .val (.long val), .second, .val (.int (cd &&& (3 : Int32))), .val (.long (keyF aa ((cd.toUInt32 >>> ((2 : Int32) &&& 31).toUInt32).toInt32))), .second] [])) t := by
        intro t k
        show Steps p.tables e below (T2.setTop (mkF m 47 #[.val (.ref o0), .val (.ref sa), .val (.long aa), .second, .val (.int cd), .val (.long qq), .second, .val (.long val), .second, .val (.int (cd &&& (3 : Int32))), .val (.long (keyF aa ((cd.toUInt32 >>> ((2 : Int32) &&& 31).toUInt32).toInt32))), .second] [])) t
        refine XS.aloadN X2.here hx rfl (hb hby d6_47) rfl rfl ?_
        show Steps p.tables e below (T2.setTop (mkF m 48 #[.val (.ref o0), .val (.ref sa), .val (.long aa), .second, .val (.int cd), .val (.long qq), .second, .val (.long val), .second, .val (.int (cd &&& (3 : Int32))), .val (.long (keyF aa ((cd.toUInt32 >>> ((2 : Int32) &&& 31).toUInt32).toInt32))), .second] [(.ref o0)])) t
        refine XS.lload X2.here hx rfl (hb hby d6_48) rfl ?_
        show Steps p.tables e below (T2.setTop (mkF m 50 #[.val (.ref o0), .val (.ref sa), .val (.long aa), .second, .val (.int cd), .val (.long qq), .second, .val (.long val), .second, .val (.int (cd &&& (3 : Int32))), .val (.long (keyF aa ((cd.toUInt32 >>> ((2 : Int32) &&& 31).toUInt32).toInt32))), .second] [(.long (keyF aa ((cd.toUInt32 >>> ((2 : Int32) &&& 31).toUInt32).toInt32))), (.ref o0)])) t
        refine XS.lload X2.here hx rfl (hb hby d6_50) rfl ?_
        exact k
      refine OFin.go S51 ?_
      obtain ⟨_, T52, Lc52, X52, hQ52, st52⟩ := virtQ X2 hx hZ (y := (⟨"com/example/clockwrap/clockwrap/store/LongTable", "put", "(JJ)V"⟩ : MethodName)) hown (hw _ (List.mem_of_getElem? (i := 94) rfl)) (hw _ (List.mem_of_getElem? (i := 96) rfl)) (hw _ (List.mem_of_getElem? (i := 2) rfl)) (hw _ (List.mem_of_getElem? (i := 98) rfl)) (hw _ (List.mem_of_getElem? (i := 95) rfl)) (hw _ (List.mem_of_getElem? (i := 97) rfl)) (by decide) hT.exa (argsL := [(.long (keyF aa ((cd.toUInt32 >>> ((2 : Int32) &&& 31).toUInt32).toInt32))), (.long val)]) (rest := []) (rm17 l Z a0 hw [] o0 (keyF aa ((cd.toUInt32 >>> ((2 : Int32) &&& 31).toUInt32).toInt32)) val Wl mm M h0 n0 Z0 hT hmm) (W := 0) (by decide) (by decide) e2 (g := (mkF m 52 #[.val (.ref o0), .val (.ref sa), .val (.long aa), .second, .val (.int cd), .val (.long qq), .second, .val (.long val), .second, .val (.int (cd &&& (3 : Int32))), .val (.long (keyF aa ((cd.toUInt32 >>> ((2 : Int32) &&& 31).toUInt32).toInt32))), .second] [(.long val), (.long (keyF aa ((cd.toUInt32 >>> ((2 : Int32) &&& 31).toUInt32).toInt32))), (.ref o0)])) rfl (by rw [hml]; rfl) (lenOf pd_10 rfl) rfl (by show 2 * 0 + _ ≤ _; exact Nat.le_of_eq rfl) (hb hby d6_52) (Nat.le_of_ble_eq_true rfl) (Nat.le_of_ble_eq_true rfl)
      obtain ⟨Wl52, rfl, N52q, K52q, Tb52, sb52⟩ := hQ52
      have Z52 : n0 ≤ T52.heap.size := Nat.le_trans Z0 K52q.1
      have K52 := Keep.trans K0 K52q (fun x q => Or.inl (.tail _ q))
      have N52 := Fr.app N2 N52q
      refine OFin.go st52 ?_
      show OFin p e below _ (T52.setTop (mkF m 55 #[.val (.ref o0), .val (.ref sa), .val (.long aa), .second, .val (.int cd), .val (.long qq), .second, .val (.long val), .second, .val (.int (cd &&& (3 : Int32))), .val (.long (keyF aa ((cd.toUInt32 >>> ((2 : Int32) &&& 31).toUInt32).toInt32))), .second] []))
      have S53 : ∀ t, Steps p.tables e below (T52.setTop (mkF m 60 #[.val (.ref o0), .val (.ref sa), .val (.long aa), .second, .val (.int cd), .val (.long qq), .second, .val (.long val), .second, .val (.int (cd &&& (3 : Int32))), .val (.long (keyF aa ((cd.toUInt32 >>> ((2 : Int32) &&& 31).toUInt32).toInt32))), .second] [(.int (lcmpW (keyF aa ((cd.toUInt32 >>> ((2 : Int32) &&& 31).toUInt32).toInt32)) qq))])) t → Steps p.tables e below (T52.setTop (mkF m 55 #[.val (.ref o0), .val (.ref sa), .val (.long aa), .second, .val (.int cd), .val (.long qq), .second, .val (.long val), .second, .val (.int (cd &&& (3 : Int32))), .val (.long (keyF aa ((cd.toUInt32 >>> ((2 : Int32) &&& 31).toUInt32).toInt32))), .second] [])) t := by
        intro t k
        show Steps p.tables e below (T52.setTop (mkF m 55 #[.val (.ref o0), .val (.ref sa), .val (.long aa), .second, .val (.int cd), .val (.long qq), .second, .val (.long val), .second, .val (.int (cd &&& (3 : Int32))), .val (.long (keyF aa ((cd.toUInt32 >>> ((2 : Int32) &&& 31).toUInt32).toInt32))), .second] [])) t
        refine XS.lload X52.here hx rfl (hb hby d6_55) rfl ?_
        show Steps p.tables e below (T52.setTop (mkF m 57 #[.val (.ref o0), .val (.ref sa), .val (.long aa), .second, .val (.int cd), .val (.long qq), .second, .val (.long val), .second, .val (.int (cd &&& (3 : Int32))), .val (.long (keyF aa ((cd.toUInt32 >>> ((2 : Int32) &&& 31).toUInt32).toInt32))), .second] [(.long (keyF aa ((cd.toUInt32 >>> ((2 : Int32) &&& 31).toUInt32).toInt32)))])) t
        refine XS.lload X52.here hx rfl (hb hby d6_57) rfl ?_
        show Steps p.tables e below (T52.setTop (mkF m 59 #[.val (.ref o0), .val (.ref sa), .val (.long aa), .second, .val (.int cd), .val (.long qq), .second, .val (.long val), .second, .val (.int (cd &&& (3 : Int32))), .val (.long (keyF aa ((cd.toUInt32 >>> ((2 : Int32) &&& 31).toUInt32).toInt32))), .second] [(.long qq), (.long (keyF aa ((cd.toUInt32 >>> ((2 : Int32) &&& 31).toUInt32).toInt32)))])) t
        refine XS.lcmp X52.here hx rfl (hb hby d6_59) rfl ?_
        exact k
      refine OFin.go S53 ?_
      by_cases h54 : ((keyF aa ((cd.toUInt32 >>> ((2 : Int32) &&& 31).toUInt32).toInt32)) = qq)
      · -- pc 60: ((keyF aa ((cd.toUInt32 >>> ((2 : Int32) &&& 31).toUInt32).toInt32)) = qq)
        have S55 : ∀ t, Steps p.tables e below (T52.setTop (mkF m 63 #[.val (.ref o0), .val (.ref sa), .val (.long aa), .second, .val (.int cd), .val (.long qq), .second, .val (.long val), .second, .val (.int (cd &&& (3 : Int32))), .val (.long (keyF aa ((cd.toUInt32 >>> ((2 : Int32) &&& 31).toUInt32).toInt32))), .second] [])) t → Steps p.tables e below (T52.setTop (mkF m 60 #[.val (.ref o0), .val (.ref sa), .val (.long aa), .second, .val (.int cd), .val (.long qq), .second, .val (.long val), .second, .val (.int (cd &&& (3 : Int32))), .val (.long (keyF aa ((cd.toUInt32 >>> ((2 : Int32) &&& 31).toUInt32).toInt32))), .second] [(.int (lcmpW (keyF aa ((cd.toUInt32 >>> ((2 : Int32) &&& 31).toUInt32).toInt32)) qq))])) t := by
          intro t k
          show Steps p.tables e below (T52.setTop (mkF m 60 #[.val (.ref o0), .val (.ref sa), .val (.long aa), .second, .val (.int cd), .val (.long qq), .second, .val (.long val), .second, .val (.int (cd &&& (3 : Int32))), .val (.long (keyF aa ((cd.toUInt32 >>> ((2 : Int32) &&& 31).toUInt32).toInt32))), .second] [(.int (lcmpW (keyF aa ((cd.toUInt32 >>> ((2 : Int32) &&& 31).toUInt32).toInt32)) qq))])) t
          refine XS.ifNo X52.here hx rfl (hb hby d6_60) rfl (lc_ne_f h54) ?_
          exact k
        refine OFin.go S55 ?_
        have S56 : ∀ t, Steps p.tables e below (T52.setTop (mkF m 65 #[.val (.ref o0), .val (.ref sa), .val (.long aa), .second, .val (.int cd), .val (.long qq), .second, .val (.long val), .second, .val (.int (cd &&& (3 : Int32))), .val (.long (keyF aa ((cd.toUInt32 >>> ((2 : Int32) &&& 31).toUInt32).toInt32))), .second] [(.int (cd &&& (3 : Int32)))])) t → Steps p.tables e below (T52.setTop (mkF m 63 #[.val (.ref o0), .val (.ref sa), .val (.long aa), .second, .val (.int cd), .val (.long qq), .second, .val (.long val), .second, .val (.int (cd &&& (3 : Int32))), .val (.long (keyF aa ((cd.toUInt32 >>> ((2 : Int32) &&& 31).toUInt32).toInt32))), .second] [])) t := by
          intro t k
          show Steps p.tables e below (T52.setTop (mkF m 63 #[.val (.ref o0), .val (.ref sa), .val (.long aa), .second, .val (.int cd), .val (.long qq), .second, .val (.long val), .second, .val (.int (cd &&& (3 : Int32))), .val (.long (keyF aa ((cd.toUInt32 >>> ((2 : Int32) &&& 31).toUInt32).toInt32))), .second] [])) t
          refine XS.iload X52.here hx rfl (hb hby d6_63) rfl ?_
          exact k
        refine OFin.go S56 ?_
        have S57 : ∀ t, Steps p.tables e below (T52.setTop (mkF m 87 #[.val (.ref o0), .val (.ref sa), .val (.long aa), .second, .val (.int cd), .val (.long qq), .second, .val (.long val), .second, .val (.int (cd &&& (3 : Int32))), .val (.long (keyF aa ((cd.toUInt32 >>> ((2 : Int32) &&& 31).toUInt32).toInt32))), .second] [])) t → Steps p.tables e below (T52.setTop (mkF m 65 #[.val (.ref o0), .val (.ref sa), .val (.long aa), .second, .val (.int cd), .val (.long qq), .second, .val (.long val), .second, .val (.int (cd &&& (3 : Int32))), .val (.long (keyF aa ((cd.toUInt32 >>> ((2 : Int32) &&& 31).toUInt32).toInt32))), .second] [(.int (cd &&& (3 : Int32)))])) t := by
          intro t k
          show Steps p.tables e below (T52.setTop (mkF m 65 #[.val (.ref o0), .val (.ref sa), .val (.long aa), .second, .val (.int cd), .val (.long qq), .second, .val (.long val), .second, .val (.int (cd &&& (3 : Int32))), .val (.long (keyF aa ((cd.toUInt32 >>> ((2 : Int32) &&& 31).toUInt32).toInt32))), .second] [(.int (cd &&& (3 : Int32)))])) t
          refine XS.ifYes X52.here hx rfl (pc0 := 65) (pc' := 87) rfl (hb hby d6_65) rfl ((if0 _ _).trans (feq h4).2) (by decide) (by decide) ?_
          exact k
        refine OFin.go S57 ?_
        have S58 : ∀ t, Steps p.tables e below (T52.setTop (mkF m 90 #[.val (.ref o0), .val (.ref sa), .val (.long aa), .second, .val (.int cd), .val (.long qq), .second, .val (.long val), .second, .val (.int (cd &&& (3 : Int32))), .val (.long (keyF aa ((cd.toUInt32 >>> ((2 : Int32) &&& 31).toUInt32).toInt32))), .second] [(.int (2 : Int32)), (.int (cd &&& (3 : Int32)))])) t → Steps p.tables e below (T52.setTop (mkF m 87 #[.val (.ref o0), .val (.ref sa), .val (.long aa), .second, .val (.int cd), .val (.long qq), .second, .val (.long val), .second, .val (.int (cd &&& (3 : Int32))), .val (.long (keyF aa ((cd.toUInt32 >>> ((2 : Int32) &&& 31).toUInt32).toInt32))), .second] [])) t := by
          intro t k
          show Steps p.tables e below (T52.setTop (mkF m 87 #[.val (.ref o0), .val (.ref sa), .val (.long aa), .second, .val (.int cd), .val (.long qq), .second, .val (.long val), .second, .val (.int (cd &&& (3 : Int32))), .val (.long (keyF aa ((cd.toUInt32 >>> ((2 : Int32) &&& 31).toUInt32).toInt32))), .second] [])) t
          refine XS.iload X52.here hx rfl (hb hby d6_87) rfl ?_
          show Steps p.tables e below (T52.setTop (mkF m 89 #[.val (.ref o0), .val (.ref sa), .val (.long aa), .second, .val (.int cd), .val (.long qq), .second, .val (.long val), .second, .val (.int (cd &&& (3 : Int32))), .val (.long (keyF aa ((cd.toUInt32 >>> ((2 : Int32) &&& 31).toUInt32).toInt32))), .second] [(.int (cd &&& (3 : Int32)))])) t
          refine XS.iconst X52.here hx rfl (hb hby d6_89) ?_
          exact k
        refine OFin.go S58 ?_
        have S59 : ∀ t, Steps p.tables e below (T52.setTop (mkF m 104 #[.val (.ref o0), .val (.ref sa), .val (.long aa), .second, .val (.int cd), .val (.long qq), .second, .val (.long val), .second, .val (.int (cd &&& (3 : Int32))), .val (.long (keyF aa ((cd.toUInt32 >>> ((2 : Int32) &&& 31).toUInt32).toInt32))), .second] [])) t → Steps p.tables e below (T52.setTop (mkF m 90 #[.val (.ref o0), .val (.ref sa), .val (.long aa), .second, .val (.int cd), .val (.long qq), .second, .val (.long val), .second, .val (.int (cd &&& (3 : Int32))), .val (.long (keyF aa ((cd.toUInt32 >>> ((2 : Int32) &&& 31).toUInt32).toInt32))), .second] [(.int (2 : Int32)), (.int (cd &&& (3 : Int32)))])) t := by
          intro t k
          show Steps p.tables e below (T52.setTop (mkF m 90 #[.val (.ref o0), .val (.ref sa), .val (.long aa), .second, .val (.int cd), .val (.long qq), .second, .val (.long val), .second, .val (.int (cd &&& (3 : Int32))), .val (.long (keyF aa ((cd.toUInt32 >>> ((2 : Int32) &&& 31).toUInt32).toInt32))), .second] [(.int (2 : Int32)), (.int (cd &&& (3 : Int32)))])) t
          refine XS.icmpYes X52.here hx rfl (pc0 := 90) (pc' := 104) rfl (hb hby d6_90) rfl (feq h29).2 (by decide) (by decide) ?_
          exact k
        refine OFin.go S59 ?_
        have S60 : ∀ t, Steps p.tables e below (T52.setTop (mkF m 107 #[.val (.ref o0), .val (.ref sa), .val (.long aa), .second, .val (.int cd), .val (.long qq), .second, .val (.long val), .second, .val (.int (cd &&& (3 : Int32))), .val (.long (keyF aa ((cd.toUInt32 >>> ((2 : Int32) &&& 31).toUInt32).toInt32))), .second] [(.long (1 : Int64)), (.int (0 : Int32)), (.ref sa)])) t → Steps p.tables e below (T52.setTop (mkF m 104 #[.val (.ref o0), .val (.ref sa), .val (.long aa), .second, .val (.int cd), .val (.long qq), .second, .val (.long val), .second, .val (.int (cd &&& (3 : Int32))), .val (.long (keyF aa ((cd.toUInt32 >>> ((2 : Int32) &&& 31).toUInt32).toInt32))), .second] [])) t := by
          intro t k
          show Steps p.tables e below (T52.setTop (mkF m 104 #[.val (.ref o0), .val (.ref sa), .val (.long aa), .second, .val (.int cd), .val (.long qq), .second, .val (.long val), .second, .val (.int (cd &&& (3 : Int32))), .val (.long (keyF aa ((cd.toUInt32 >>> ((2 : Int32) &&& 31).toUInt32).toInt32))), .second] [])) t
          refine XS.aloadN X52.here hx rfl (hb hby d6_104) rfl rfl ?_
          show Steps p.tables e below (T52.setTop (mkF m 105 #[.val (.ref o0), .val (.ref sa), .val (.long aa), .second, .val (.int cd), .val (.long qq), .second, .val (.long val), .second, .val (.int (cd &&& (3 : Int32))), .val (.long (keyF aa ((cd.toUInt32 >>> ((2 : Int32) &&& 31).toUInt32).toInt32))), .second] [(.ref sa)])) t
          refine XS.iconst X52.here hx rfl (hb hby d6_105) ?_
          show Steps p.tables e below (T52.setTop (mkF m 106 #[.val (.ref o0), .val (.ref sa), .val (.long aa), .second, .val (.int cd), .val (.long qq), .second, .val (.long val), .second, .val (.int (cd &&& (3 : Int32))), .val (.long (keyF aa ((cd.toUInt32 >>> ((2 : Int32) &&& 31).toUInt32).toInt32))), .second] [(.int (0 : Int32)), (.ref sa)])) t
          refine XS.lconst X52.here hx rfl (hb hby d6_106) ?_
          exact k
        refine OFin.go S60 ?_
        have F61 := Va.keep K52q hsa
        obtain ⟨T62, h62, X62, e62, W62, st62⟩ := wrJ X52 hx hZ rfl F61 (i := 0) (by decide) rfl (by decide) (g := (mkF m 107 #[.val (.ref o0), .val (.ref sa), .val (.long aa), .second, .val (.int cd), .val (.long qq), .second, .val (.long val), .second, .val (.int (cd &&& (3 : Int32))), .val (.long (keyF aa ((cd.toUInt32 >>> ((2 : Int32) &&& 31).toUInt32).toInt32))), .second] [(.long (1 : Int64)), (.int (0 : Int32)), (.ref sa)])) rfl rfl (hb hby d6_107)
        have V62 := F61.set W62
        have N62 := Fr.snoc X62 N52 ges
        have Z62 : n0 ≤ h62.size := Nat.le_trans Z52 (wr_le W62)
        have K62 := Keep.wr K52 W62 (Or.inl (.head _))
        refine OFin.go st62 ?_
        show OFin p e below _ (T62.setTop (mkF m 108 #[.val (.ref o0), .val (.ref sa), .val (.long aa), .second, .val (.int cd), .val (.long qq), .second, .val (.long val), .second, .val (.int (cd &&& (3 : Int32))), .val (.long (keyF aa ((cd.toUInt32 >>> ((2 : Int32) &&& 31).toUInt32).toInt32))), .second] []))
        have S63 : ∀ t, Steps p.tables e below (T62.setTop (mkF m 112 #[.val (.ref o0), .val (.ref sa), .val (.long aa), .second, .val (.int cd), .val (.long qq), .second, .val (.long val), .second, .val (.int (cd &&& (3 : Int32))), .val (.long (keyF aa ((cd.toUInt32 >>> ((2 : Int32) &&& 31).toUInt32).toInt32))), .second] [(.long val), (.int (1 : Int32)), (.ref sa)])) t → Steps p.tables e below (T62.setTop (mkF m 108 #[.val (.ref o0), .val (.ref sa), .val (.long aa), .second, .val (.int cd), .val (.long qq), .second, .val (.long val), .second, .val (.int (cd &&& (3 : Int32))), .val (.long (keyF aa ((cd.toUInt32 >>> ((2 : Int32) &&& 31).toUInt32).toInt32))), .second] [])) t := by
          intro t k
          show Steps p.tables e below (T62.setTop (mkF m 108 #[.val (.ref o0), .val (.ref sa), .val (.long aa), .second, .val (.int cd), .val (.long qq), .second, .val (.long val), .second, .val (.int (cd &&& (3 : Int32))), .val (.long (keyF aa ((cd.toUInt32 >>> ((2 : Int32) &&& 31).toUInt32).toInt32))), .second] [])) t
          refine XS.aloadN X62.here hx rfl (hb hby d6_108) rfl rfl ?_
          show Steps p.tables e below (T62.setTop (mkF m 109 #[.val (.ref o0), .val (.ref sa), .val (.long aa), .second, .val (.int cd), .val (.long qq), .second, .val (.long val), .second, .val (.int (cd &&& (3 : Int32))), .val (.long (keyF aa ((cd.toUInt32 >>> ((2 : Int32) &&& 31).toUInt32).toInt32))), .second] [(.ref sa)])) t
          refine XS.iconst X62.here hx rfl (hb hby d6_109) ?_
          show Steps p.tables e below (T62.setTop (mkF m 110 #[.val (.ref o0), .val (.ref sa), .val (.long aa), .second, .val (.int cd), .val (.long qq), .second, .val (.long val), .second, .val (.int (cd &&& (3 : Int32))), .val (.long (keyF aa ((cd.toUInt32 >>> ((2 : Int32) &&& 31).toUInt32).toInt32))), .second] [(.int (1 : Int32)), (.ref sa)])) t
          refine XS.lload X62.here hx rfl (hb hby d6_110) rfl ?_
          exact k
        refine OFin.go S63 ?_
        obtain ⟨T64, h64, X64, e64, W64, st64⟩ := wrJ X62 hx hZ e62 V62 (i := 1) (by decide) rfl (by decide) (g := (mkF m 112 #[.val (.ref o0), .val (.ref sa), .val (.long aa), .second, .val (.int cd), .val (.long qq), .second, .val (.long val), .second, .val (.int (cd &&& (3 : Int32))), .val (.long (keyF aa ((cd.toUInt32 >>> ((2 : Int32) &&& 31).toUInt32).toInt32))), .second] [(.long val), (.int (1 : Int32)), (.ref sa)])) rfl rfl (hb hby d6_112)
        have V64 := V62.set W64
        have N64 := Fr.snoc X64 N62 ges
        have Z64 : n0 ≤ h64.size := Nat.le_trans Z62 (wr_le W64)
        have K64 := Keep.wr K62 W64 (Or.inl (.head _))
        refine OFin.go st64 ?_
        show OFin p e below _ (T64.setTop (mkF m 113 #[.val (.ref o0), .val (.ref sa), .val (.long aa), .second, .val (.int cd), .val (.long qq), .second, .val (.long val), .second, .val (.int (cd &&& (3 : Int32))), .val (.long (keyF aa ((cd.toUInt32 >>> ((2 : Int32) &&& 31).toUInt32).toInt32))), .second] []))
        have F65 := TBL.keep Tb52 (Keep.of_wr W62) (allS (fun q => (sb52 _ q).elim hsa (fun r => absurd Va.lt (Nat.not_lt.mpr r))) all0)
        have F66 := TBL.keep F65 (Keep.of_wr W64) (allS (fun q => (sb52 _ q).elim hsa (fun r => absurd Va.lt (Nat.not_lt.mpr r))) all0)
        exact finV X64 hx Bd.notSynchronized Bd.returns (hb hby d6_113) (by decide) (by decide) (by rw [e64]; exact ⟨Wl52, (putM (keyF aa ((cd.toUInt32 >>> ((2 : Int32) &&& 31).toUInt32).toInt32)) val M), (upd (upd sf 0 1) 1 val), rfl, N64, K64, F66, V64.congr (fun i _ => own_updl2 sf _ _ i), (fun q => (sb52 _ q).elim hsa (fun r => absurd Va.lt (Nat.not_lt.mpr r))), STI.put h54⟩)
      · -- pc 60: not ((keyF aa ((cd.toUInt32 >>> ((2 : Int32) &&& 31).toUInt32).toInt32)) = qq)
        have S67 : ∀ t, Steps p.tables e below (T52.setTop (mkF m 113 #[.val (.ref o0), .val (.ref sa), .val (.long aa), .second, .val (.int cd), .val (.long qq), .second, .val (.long val), .second, .val (.int (cd &&& (3 : Int32))), .val (.long (keyF aa ((cd.toUInt32 >>> ((2 : Int32) &&& 31).toUInt32).toInt32))), .second] [])) t → Steps p.tables e below (T52.setTop (mkF m 60 #[.val (.ref o0), .val (.ref sa), .val (.long aa), .second, .val (.int cd), .val (.long qq), .second, .val (.long val), .second, .val (.int (cd &&& (3 : Int32))), .val (.long (keyF aa ((cd.toUInt32 >>> ((2 : Int32) &&& 31).toUInt32).toInt32))), .second] [(.int (lcmpW (keyF aa ((cd.toUInt32 >>> ((2 : Int32) &&& 31).toUInt32).toInt32)) qq))])) t := by
          intro t k
          show Steps p.tables e below (T52.setTop (mkF m 60 #[.val (.ref o0), .val (.ref sa), .val (.long aa), .second, .val (.int cd), .val (.long qq), .second, .val (.long val), .second, .val (.int (cd &&& (3 : Int32))), .val (.long (keyF aa ((cd.toUInt32 >>> ((2 : Int32) &&& 31).toUInt32).toInt32))), .second] [(.int (lcmpW (keyF aa ((cd.toUInt32 >>> ((2 : Int32) &&& 31).toUInt32).toInt32)) qq))])) t
          refine XS.ifYes X52.here hx rfl (pc0 := 60) (pc' := 113) rfl (hb hby d6_60) rfl (lc_ne_t h54) (by decide) (by decide) ?_
          exact k
        refine OFin.go S67 ?_
        have F68 := Va.keep K52q hsa
        exact finV X52 hx Bd.notSynchronized Bd.returns (hb hby d6_113) (by decide) (by decide) (by exact ⟨Wl52, (putM (keyF aa ((cd.toUInt32 >>> ((2 : Int32) &&& 31).toUInt32).toInt32)) val M), sf, rfl, N52, K52, Tb52, F68, (fun q => (sb52 _ q).elim hsa (fun r => absurd Va.lt (Nat.not_lt.mpr r))), STI.oth hI (putM_l _ _) h54⟩)
theorem ef_rm0 (m : MethodId) (aa : Int64) (v1 : Int64) (v2 : Int64) (v3 : Int64) (v4 : Int64) (sel : Int32) : entryFrame m #[(.long aa), (.long v1), (.long v2), (.long v3), (.long v4), (.int sel)] maxLocals = mkF m 0 #[.val (.long aa), .second, .val (.long v1), .second, .val (.long v2), .second, .val (.long v3), .second, .val (.long v4), .second, .val (.int sel), .unset, .unset, .unset, .unset] [] := by first | (simp [entryFrame, mkF, argsToLocals, Value.category, maxLocals]; done) | rfl
def Q_rm0 (Z : State) (aa : Int64) (v1 : Int64) (v2 : Int64) (v3 : Int64) (v4 : Int64) (sel : Int32)  (h0 : Heap) (n0 : Nat) (v : Option Value) (h : Heap) (L : List Loc) : Prop := v = some (.int (1 : Int32)) ∧ Fr n0 L
theorem pd_11 : parseMethodDescriptor "(Lcom/example/clockwrap/clockwrap/store/LongTable;[JJIJJ)V" = some ⟨[(.object "com/example/clockwrap/clockwrap/store/LongTable"), (.array .long), .long, .int, .long, .long], none⟩ := by decide +kernel
set_option maxRecDepth 65536 in
set_option maxHeartbeats 40000000 in
theorem rm0 (l : Launch) (Z : State) (a0 : Array Value) (hw : ∀ d ∈ tables_1, d.before a0 Z = true) (ws : List Jvm.Cond) (aa : Int64) (v1 : Int64) (v2 : Int64) (v3 : Int64) (v4 : Int64) (sel : Int32)  (h0 : Heap) (n0 : Nat) (Z0 : n0 ≤ h0.size)  :
    MetFree l x (head1 (Jvm.Cond.code x code maxLocals ret :: ws) room_1) (fun a U => a = #[(.long aa), (.long v1), (.long v2), (.long v3), (.long v4), (.int sel)] ∧ Z.Warmed39 U.vm ∧ U.heap = h0) (fun _ _ _ _ _ => True) (fun _ U o U' => ∃ v L, o = .returned v ∧ (Q_rm0 Z aa v1 v2 v3 v4 sel h0 n0) v U'.heap L ∧ FrameEnd U o U' L 280 2880) := by
  refine MetFree.of_bodySF (plainFor_of_name pn_3) hisR ?_
  intro p e s m args below meth c s₁ Bd hml0 hP hK
  obtain ⟨rfl, hZ, hh⟩ := hP
  have hx := Bd.exec
  have hby := Bd.bytes
  have hml : c.maxLocals = 15 := hml0
  have hown : s.vm.findClass "com/example/clockwrap/clockwrap/store/LongTableGetPinLaw" = some m.cls := findClass_of_methodNamed Bd.named
  have hnm := (name_of_methodNamed Bd.named Bd.method).1
  have X0 : Stand p l e room_1 s m #[(.long aa), (.long v1), (.long v2), (.long v3), (.long v4), (.int sel)] below meth c s₁ [] 0 0 := Stand.of_body Bd
  have e0 : s₁.heap = h0 := by rw [← hh, Bd.state]; rfl
  have N0 := Fr.nil n0
  show OFin p e below (ORet (Q_rm0 Z aa v1 v2 v3 v4 sel h0 n0) s 280 2880) (s₁.setTop (entryFrame m #[(.long aa), (.long v1), (.long v2), (.long v3), (.long v4), (.int sel)] maxLocals))
  refine OFin.go (fun t k => castTop (ef_rm0 m aa v1 v2 v3 v4 sel) k) ?_
  show OFin p e below (ORet (Q_rm0 Z aa v1 v2 v3 v4 sel h0 n0) s 280 2880) (s₁.setTop (mkF m 0 #[.val (.long aa), .second, .val (.long v1), .second, .val (.long v2), .second, .val (.long v3), .second, .val (.long v4), .second, .val (.int sel), .unset, .unset, .unset, .unset] []))
  obtain ⟨T1, h1, X1, e1, E1, A1, D1, -, st1⟩ := newO X0 hx hZ hown (hw _ (List.mem_of_getElem? (i := 0) rfl)) (hw _ (List.mem_of_getElem? (i := 1) rfl)) (hw _ (List.mem_of_getElem? (i := 2) rfl)) e0 (g := (mkF m 0 #[.val (.long aa), .second, .val (.long v1), .second, .val (.long v2), .second, .val (.long v3), .second, .val (.long v4), .second, .val (.int sel), .unset, .unset, .unset, .unset] [])) rfl (hb hby at_0) (Nat.le_of_ble_eq_true rfl) (Nat.le_of_ble_eq_true rfl)
  obtain ⟨b1, g1⟩ : ∃ z, z = h0.size := ⟨_, rfl⟩
  rw [← g1] at A1 D1 st1
  have ge1 : n0 ≤ b1 := Nat.le_trans Z0 (Nat.le_of_eq g1.symm)
  have Z1 : n0 ≤ h1.size := Nat.le_trans Z0 E1.1
  have F1_parts : Fld Z h1 b1 "com/example/clockwrap/clockwrap/store/LongTable" "parts" "[Lcom/example/clockwrap/clockwrap/store/LongTable$Part;" .null := D1 (Or.inr (hw _ (List.mem_of_getElem? (i := 12) rfl))) (ty := (.array (.object "com/example/clockwrap/clockwrap/store/LongTable$Part"))) (by decide)
  have F1_size : Fld Z h1 b1 "com/example/clockwrap/clockwrap/store/LongTable" "size" "I" (.int (0 : Int32)) := D1 (Or.inl (hw _ (List.mem_of_getElem? (i := 81) rfl))) (ty := .int) (by decide)
  have F1_hasZero : Fld Z h1 b1 "com/example/clockwrap/clockwrap/store/LongTable" "hasZero" "Z" (.int (0 : Int32)) := D1 (Or.inl (hw _ (List.mem_of_getElem? (i := 93) rfl))) (ty := .boolean) (by decide)
  have F1_zeroValue : Fld Z h1 b1 "com/example/clockwrap/clockwrap/store/LongTable" "zeroValue" "J" (.long (0 : Int64)) := D1 (Or.inl (hw _ (List.mem_of_getElem? (i := 105) rfl))) (ty := .long) (by decide)
  refine OFin.go st1 ?_
  show OFin p e below _ (T1.setTop (mkF m 3 #[.val (.long aa), .second, .val (.long v1), .second, .val (.long v2), .second, .val (.long v3), .second, .val (.long v4), .second, .val (.int sel), .unset, .unset, .unset, .unset] [(.ref b1)]))
  have S2 : ∀ t, Steps p.tables e below (T1.setTop (mkF m 4 #[.val (.long aa), .second, .val (.long v1), .second, .val (.long v2), .second, .val (.long v3), .second, .val (.long v4), .second, .val (.int sel), .unset, .unset, .unset, .unset] [(.ref b1), (.ref b1)])) t → Steps p.tables e below (T1.setTop (mkF m 3 #[.val (.long aa), .second, .val (.long v1), .second, .val (.long v2), .second, .val (.long v3), .second, .val (.long v4), .second, .val (.int sel), .unset, .unset, .unset, .unset] [(.ref b1)])) t := by
    intro t k
    show Steps p.tables e below (T1.setTop (mkF m 3 #[.val (.long aa), .second, .val (.long v1), .second, .val (.long v2), .second, .val (.long v3), .second, .val (.long v4), .second, .val (.int sel), .unset, .unset, .unset, .unset] [(.ref b1)])) t
    refine XS.dup X1.here hx rfl (hb hby at_3) rfl rfl ?_
    exact k
  refine OFin.go S2 ?_
  obtain ⟨_, T3, Lc3, X3, hQ3, st3⟩ := specQ X1 hx hZ (y := (⟨"com/example/clockwrap/clockwrap/store/LongTable", "<init>", "()V"⟩ : MethodName)) rfl hown (hw _ (List.mem_of_getElem? (i := 3) rfl)) (hw _ (List.mem_of_getElem? (i := 4) rfl)) (hw _ (List.mem_of_getElem? (i := 2) rfl)) (hw _ (List.mem_of_getElem? (i := 5) rfl)) (by decide) (a := b1) (argsL := []) (rest := [(.ref b1)]) (rm1 l Z a0 hw [] b1 h1 n0 Z1 ge1 A1 F1_parts F1_size F1_hasZero F1_zeroValue) (W := 1) (by decide) (by decide) e1 (g := (mkF m 4 #[.val (.long aa), .second, .val (.long v1), .second, .val (.long v2), .second, .val (.long v3), .second, .val (.long v4), .second, .val (.int sel), .unset, .unset, .unset, .unset] [(.ref b1), (.ref b1)])) rfl (by rw [hml]; rfl) (lenOf pd_4 rfl) rfl (by show 2 * 0 + _ ≤ _; exact Nat.le_of_eq rfl) (hb hby at_4) (Nat.le_of_ble_eq_true rfl) (Nat.le_of_ble_eq_true rfl)
  obtain ⟨Wl3, rfl, N3q, K3q, Tb3⟩ := hQ3
  have Z3 : n0 ≤ T3.heap.size := Nat.le_trans Z1 K3q.1
  have N3 := Fr.app N0 N3q
  refine OFin.go st3 ?_
  show OFin p e below _ (T3.setTop (mkF m 7 #[.val (.long aa), .second, .val (.long v1), .second, .val (.long v2), .second, .val (.long v3), .second, .val (.long v4), .second, .val (.int sel), .unset, .unset, .unset, .unset] [(.ref b1)]))
  have S4 : ∀ t, Steps p.tables e below (T3.setTop (mkF m 10 #[.val (.long aa), .second, .val (.long v1), .second, .val (.long v2), .second, .val (.long v3), .second, .val (.long v4), .second, .val (.int sel), .val (.ref b1), .unset, .unset, .unset] [(.int (2 : Int32))])) t → Steps p.tables e below (T3.setTop (mkF m 7 #[.val (.long aa), .second, .val (.long v1), .second, .val (.long v2), .second, .val (.long v3), .second, .val (.long v4), .second, .val (.int sel), .unset, .unset, .unset, .unset] [(.ref b1)])) t := by
    intro t k
    show Steps p.tables e below (T3.setTop (mkF m 7 #[.val (.long aa), .second, .val (.long v1), .second, .val (.long v2), .second, .val (.long v3), .second, .val (.long v4), .second, .val (.int sel), .unset, .unset, .unset, .unset] [(.ref b1)])) t
    refine XS.astore X3.here hx rfl (hb hby at_7) rfl rfl (l' := #[.val (.long aa), .second, .val (.long v1), .second, .val (.long v2), .second, .val (.long v3), .second, .val (.long v4), .second, .val (.int sel), .val (.ref b1), .unset, .unset, .unset]) rfl ?_
    show Steps p.tables e below (T3.setTop (mkF m 9 #[.val (.long aa), .second, .val (.long v1), .second, .val (.long v2), .second, .val (.long v3), .second, .val (.long v4), .second, .val (.int sel), .val (.ref b1), .unset, .unset, .unset] [])) t
    refine XS.iconst X3.here hx rfl (hb hby at_9) ?_
    exact k
  refine OFin.go S4 ?_
  obtain ⟨T5, h5, k5, X5, e5, E5, A5, st5⟩ := newP X3 hx hZ (hw _ (List.mem_of_getElem? (i := 19) rfl)) rfl (g := (mkF m 10 #[.val (.long aa), .second, .val (.long v1), .second, .val (.long v2), .second, .val (.long v3), .second, .val (.long v4), .second, .val (.int sel), .val (.ref b1), .unset, .unset, .unset] [(.int (2 : Int32))])) rfl (hb hby at_10) rfl (by decide) (cap := 2) (by decide) (by decide) (Nat.le_of_ble_eq_true rfl) (Nat.le_of_ble_eq_true rfl)
  obtain ⟨b5, g5⟩ : ∃ z, z = T3.heap.size := ⟨_, rfl⟩
  rw [← g5] at A5 st5
  have q6 : b1 ≠ b5 := up_lt Tb3.exa.lt g5
  have ge5 : n0 ≤ b5 := Nat.le_trans Z3 (Nat.le_of_eq g5.symm)
  have Z5 : n0 ≤ h5.size := Nat.le_trans Z3 E5.1
  have V5 : Ara Z h5 b5 .long 2 (fun _ => defaultValue .long) := Ara.new A5 rfl
  refine OFin.go st5 ?_
  show OFin p e below _ (T5.setTop (mkF m 12 #[.val (.long aa), .second, .val (.long v1), .second, .val (.long v2), .second, .val (.long v3), .second, .val (.long v4), .second, .val (.int sel), .val (.ref b1), .unset, .unset, .unset] [(.ref b5)]))
  have S7 : ∀ t, Steps p.tables e below (T5.setTop (mkF m 23 #[.val (.long aa), .second, .val (.long v1), .second, .val (.long v2), .second, .val (.long v3), .second, .val (.long v4), .second, .val (.int sel), .val (.ref b1), .val (.ref b5), .unset, .unset] [(.int (((sel.toUInt32 >>> ((20 : Int32) &&& 31).toUInt32).toInt32) &&& (7 : Int32))), (.long aa)])) t → Steps p.tables e below (T5.setTop (mkF m 12 #[.val (.long aa), .second, .val (.long v1), .second, .val (.long v2), .second, .val (.long v3), .second, .val (.long v4), .second, .val (.int sel), .val (.ref b1), .unset, .unset, .unset] [(.ref b5)])) t := by
    intro t k
    show Steps p.tables e below (T5.setTop (mkF m 12 #[.val (.long aa), .second, .val (.long v1), .second, .val (.long v2), .second, .val (.long v3), .second, .val (.long v4), .second, .val (.int sel), .val (.ref b1), .unset, .unset, .unset] [(.ref b5)])) t
    refine XS.astore X5.here hx rfl (hb hby at_12) rfl rfl (l' := #[.val (.long aa), .second, .val (.long v1), .second, .val (.long v2), .second, .val (.long v3), .second, .val (.long v4), .second, .val (.int sel), .val (.ref b1), .val (.ref b5), .unset, .unset]) rfl ?_
    show Steps p.tables e below (T5.setTop (mkF m 14 #[.val (.long aa), .second, .val (.long v1), .second, .val (.long v2), .second, .val (.long v3), .second, .val (.long v4), .second, .val (.int sel), .val (.ref b1), .val (.ref b5), .unset, .unset] [])) t
    refine XS.lloadN X5.here hx rfl (hb hby at_14) rfl ?_
    show Steps p.tables e below (T5.setTop (mkF m 15 #[.val (.long aa), .second, .val (.long v1), .second, .val (.long v2), .second, .val (.long v3), .second, .val (.long v4), .second, .val (.int sel), .val (.ref b1), .val (.ref b5), .unset, .unset] [(.long aa)])) t
    refine XS.iload X5.here hx rfl (hb hby at_15) rfl ?_
    show Steps p.tables e below (T5.setTop (mkF m 17 #[.val (.long aa), .second, .val (.long v1), .second, .val (.long v2), .second, .val (.long v3), .second, .val (.long v4), .second, .val (.int sel), .val (.ref b1), .val (.ref b5), .unset, .unset] [(.int sel), (.long aa)])) t
    refine XS.bipush X5.here hx rfl (hb hby at_17) ?_
    show Steps p.tables e below (T5.setTop (mkF m 19 #[.val (.long aa), .second, .val (.long v1), .second, .val (.long v2), .second, .val (.long v3), .second, .val (.long v4), .second, .val (.int sel), .val (.ref b1), .val (.ref b5), .unset, .unset] [(.int (20 : Int32)), (.int sel), (.long aa)])) t
    refine XS.iushr X5.here hx rfl (hb hby at_19) rfl ?_
    show Steps p.tables e below (T5.setTop (mkF m 20 #[.val (.long aa), .second, .val (.long v1), .second, .val (.long v2), .second, .val (.long v3), .second, .val (.long v4), .second, .val (.int sel), .val (.ref b1), .val (.ref b5), .unset, .unset] [(.int ((sel.toUInt32 >>> ((20 : Int32) &&& 31).toUInt32).toInt32)), (.long aa)])) t
    refine XS.bipush X5.here hx rfl (hb hby at_20) ?_
    show Steps p.tables e below (T5.setTop (mkF m 22 #[.val (.long aa), .second, .val (.long v1), .second, .val (.long v2), .second, .val (.long v3), .second, .val (.long v4), .second, .val (.int sel), .val (.ref b1), .val (.ref b5), .unset, .unset] [(.int (7 : Int32)), (.int ((sel.toUInt32 >>> ((20 : Int32) &&& 31).toUInt32).toInt32)), (.long aa)])) t
    refine XS.iand X5.here hx rfl (hb hby at_22) rfl ?_
    exact k
  refine OFin.go S7 ?_
  obtain ⟨_, T8, Lc8, X8, hQ8, st8⟩ := callQ X5 hx hZ (y := (⟨"com/example/clockwrap/clockwrap/store/LongTableGetPinLaw", "key", "(JI)J"⟩ : MethodName)) hown (hw _ (List.mem_of_getElem? (i := 30) rfl)) (hw _ (List.mem_of_getElem? (i := 31) rfl)) (hw _ (List.mem_of_getElem? (i := 32) rfl)) (hw _ (List.mem_of_getElem? (i := 33) rfl)) (by decide) (argsL := [(.long aa), (.int (((sel.toUInt32 >>> ((20 : Int32) &&& 31).toUInt32).toInt32) &&& (7 : Int32)))]) (rest := []) (rm5 l Z a0 hw [] aa (((sel.toUInt32 >>> ((20 : Int32) &&& 31).toUInt32).toInt32) &&& (7 : Int32)) h5 n0 Z5) (W := 0) (by decide) (by decide) e5 (g := (mkF m 23 #[.val (.long aa), .second, .val (.long v1), .second, .val (.long v2), .second, .val (.long v3), .second, .val (.long v4), .second, .val (.int sel), .val (.ref b1), .val (.ref b5), .unset, .unset] [(.int (((sel.toUInt32 >>> ((20 : Int32) &&& 31).toUInt32).toInt32) &&& (7 : Int32))), (.long aa)])) rfl (by rw [hml]; rfl) (lenOf pd_9 rfl) rfl (by show 2 * 0 + _ ≤ _; exact Nat.le_of_eq rfl) (hb hby at_23) (Nat.le_of_ble_eq_true rfl) (Nat.le_of_ble_eq_true rfl)
  obtain ⟨rfl, N8q, e8⟩ := hQ8
  have N8 := Fr.app N3 N8q
  refine OFin.go st8 ?_
  show OFin p e below _ (T8.setTop (mkF m 26 #[.val (.long aa), .second, .val (.long v1), .second, .val (.long v2), .second, .val (.long v3), .second, .val (.long v4), .second, .val (.int sel), .val (.ref b1), .val (.ref b5), .unset, .unset] [(.long (keyF aa (((sel.toUInt32 >>> ((20 : Int32) &&& 31).toUInt32).toInt32) &&& (7 : Int32))))]))
  obtain ⟨qq, hqq⟩ : ∃ z : Int64, z = (keyF aa (((sel.toUInt32 >>> ((20 : Int32) &&& 31).toUInt32).toInt32) &&& (7 : Int32))) := ⟨_, rfl⟩
  rw [← hqq]
  show OFin p e below _ (T8.setTop (mkF m 26 #[.val (.long aa), .second, .val (.long v1), .second, .val (.long v2), .second, .val (.long v3), .second, .val (.long v4), .second, .val (.int sel), .val (.ref b1), .val (.ref b5), .unset, .unset] [(.long qq)]))
  have S9 : ∀ t, Steps p.tables e below (T8.setTop (mkF m 41 #[.val (.long aa), .second, .val (.long v1), .second, .val (.long v2), .second, .val (.long v3), .second, .val (.long v4), .second, .val (.int sel), .val (.ref b1), .val (.ref b5), .val (.long qq), .second] [(.long v1), (.long qq), (.int (sel &&& (31 : Int32))), (.long aa), (.ref b5), (.ref b1)])) t → Steps p.tables e below (T8.setTop (mkF m 26 #[.val (.long aa), .second, .val (.long v1), .second, .val (.long v2), .second, .val (.long v3), .second, .val (.long v4), .second, .val (.int sel), .val (.ref b1), .val (.ref b5), .unset, .unset] [(.long qq)])) t := by
    intro t k
    show Steps p.tables e below (T8.setTop (mkF m 26 #[.val (.long aa), .second, .val (.long v1), .second, .val (.long v2), .second, .val (.long v3), .second, .val (.long v4), .second, .val (.int sel), .val (.ref b1), .val (.ref b5), .unset, .unset] [(.long qq)])) t
    refine XS.lstore X8.here hx rfl (hb hby at_26) rfl (l' := #[.val (.long aa), .second, .val (.long v1), .second, .val (.long v2), .second, .val (.long v3), .second, .val (.long v4), .second, .val (.int sel), .val (.ref b1), .val (.ref b5), .val (.long qq), .second]) rfl ?_
    show Steps p.tables e below (T8.setTop (mkF m 28 #[.val (.long aa), .second, .val (.long v1), .second, .val (.long v2), .second, .val (.long v3), .second, .val (.long v4), .second, .val (.int sel), .val (.ref b1), .val (.ref b5), .val (.long qq), .second] [])) t
    refine XS.aload X8.here hx rfl (hb hby at_28) rfl rfl ?_
    show Steps p.tables e below (T8.setTop (mkF m 30 #[.val (.long aa), .second, .val (.long v1), .second, .val (.long v2), .second, .val (.long v3), .second, .val (.long v4), .second, .val (.int sel), .val (.ref b1), .val (.ref b5), .val (.long qq), .second] [(.ref b1)])) t
    refine XS.aload X8.here hx rfl (hb hby at_30) rfl rfl ?_
    show Steps p.tables e below (T8.setTop (mkF m 32 #[.val (.long aa), .second, .val (.long v1), .second, .val (.long v2), .second, .val (.long v3), .second, .val (.long v4), .second, .val (.int sel), .val (.ref b1), .val (.ref b5), .val (.long qq), .second] [(.ref b5), (.ref b1)])) t
    refine XS.lloadN X8.here hx rfl (hb hby at_32) rfl ?_
    show Steps p.tables e below (T8.setTop (mkF m 33 #[.val (.long aa), .second, .val (.long v1), .second, .val (.long v2), .second, .val (.long v3), .second, .val (.long v4), .second, .val (.int sel), .val (.ref b1), .val (.ref b5), .val (.long qq), .second] [(.long aa), (.ref b5), (.ref b1)])) t
    refine XS.iload X8.here hx rfl (hb hby at_33) rfl ?_
    show Steps p.tables e below (T8.setTop (mkF m 35 #[.val (.long aa), .second, .val (.long v1), .second, .val (.long v2), .second, .val (.long v3), .second, .val (.long v4), .second, .val (.int sel), .val (.ref b1), .val (.ref b5), .val (.long qq), .second] [(.int sel), (.long aa), (.ref b5), (.ref b1)])) t
    refine XS.bipush X8.here hx rfl (hb hby at_35) ?_
    show Steps p.tables e below (T8.setTop (mkF m 37 #[.val (.long aa), .second, .val (.long v1), .second, .val (.long v2), .second, .val (.long v3), .second, .val (.long v4), .second, .val (.int sel), .val (.ref b1), .val (.ref b5), .val (.long qq), .second] [(.int (31 : Int32)), (.int sel), (.long aa), (.ref b5), (.ref b1)])) t
    refine XS.iand X8.here hx rfl (hb hby at_37) rfl ?_
    show Steps p.tables e below (T8.setTop (mkF m 38 #[.val (.long aa), .second, .val (.long v1), .second, .val (.long v2), .second, .val (.long v3), .second, .val (.long v4), .second, .val (.int sel), .val (.ref b1), .val (.ref b5), .val (.long qq), .second] [(.int (sel &&& (31 : Int32))), (.long aa), (.ref b5), (.ref b1)])) t
    refine XS.lload X8.here hx rfl (hb hby at_38) rfl ?_
    show Steps p.tables e below (T8.setTop (mkF m 40 #[.val (.long aa), .second, .val (.long v1), .second, .val (.long v2), .second, .val (.long v3), .second, .val (.long v4), .second, .val (.int sel), .val (.ref b1), .val (.ref b5), .val (.long qq), .second] [(.long qq), (.int (sel &&& (31 : Int32))), (.long aa), (.ref b5), (.ref b1)])) t
    refine XS.lloadN X8.here hx rfl (hb hby at_40) rfl ?_
    exact k
  refine OFin.go S9 ?_
  have F11 := TBL.keep Tb3 (Keep.ext (Keep.refl _ []) E5) all0
  obtain ⟨_, T10, Lc10, X10, hQ10, st10⟩ := callQ X8 hx hZ (y := (⟨"com/example/clockwrap/clockwrap/store/LongTableGetPinLaw", "run", "(Lcom/example/clockwrap/clockwrap/store/LongTable;[JJIJJ)V"⟩ : MethodName)) hown (hw _ (List.mem_of_getElem? (i := 35) rfl)) (hw _ (List.mem_of_getElem? (i := 36) rfl)) (hw _ (List.mem_of_getElem? (i := 32) rfl)) (hw _ (List.mem_of_getElem? (i := 37) rfl)) (by decide) (argsL := [(.ref b1), (.ref b5), (.long aa), (.int (sel &&& (31 : Int32))), (.long qq), (.long v1)]) (rest := []) (rm6 l Z a0 hw [] b1 b5 aa (sel &&& (31 : Int32)) qq v1 Wl3 0 eM (fun _ => (0 : Int64)) h5 n0 Z5 F11 (by decide) ge5 V5 (fun q => absurd (Tb3.lt _ q).2 (by rw [g5]; exact Nat.lt_irrefl _)) (Or.inr ⟨rfl, rfl, fun _ z => z⟩)) (W := 0) (by decide) (by decide) e8 (g := (mkF m 41 #[.val (.long aa), .second, .val (.long v1), .second, .val (.long v2), .second, .val (.long v3), .second, .val (.long v4), .second, .val (.int sel), .val (.ref b1), .val (.ref b5), .val (.long qq), .second] [(.long v1), (.long qq), (.int (sel &&& (31 : Int32))), (.long aa), (.ref b5), (.ref b1)])) rfl (by rw [hml]; rfl) (lenOf pd_11 rfl) rfl (by show 2 * 0 + _ ≤ _; exact Nat.le_of_eq rfl) (hb hby at_41) (Nat.le_of_ble_eq_true rfl) (Nat.le_of_ble_eq_true rfl)
  obtain ⟨Wl10, M10, sf10, rfl, N10q, K10q, Tb10, Vs10, ns10, si10⟩ := hQ10
  have Z10 : n0 ≤ T10.heap.size := Nat.le_trans Z5 K10q.1
  have N10 := Fr.app N8 N10q
  refine OFin.go st10 ?_
  show OFin p e below _ (T10.setTop (mkF m 44 #[.val (.long aa), .second, .val (.long v1), .second, .val (.long v2), .second, .val (.long v3), .second, .val (.long v4), .second, .val (.int sel), .val (.ref b1), .val (.ref b5), .val (.long qq), .second] []))
  have S12 : ∀ t, Steps p.tables e below (T10.setTop (mkF m 60 #[.val (.long aa), .second, .val (.long v1), .second, .val (.long v2), .second, .val (.long v3), .second, .val (.long v4), .second, .val (.int sel), .val (.ref b1), .val (.ref b5), .val (.long qq), .second] [(.long v2), (.long qq), (.int (((sel.toUInt32 >>> ((5 : Int32) &&& 31).toUInt32).toInt32) &&& (31 : Int32))), (.long aa), (.ref b5), (.ref b1)])) t → Steps p.tables e below (T10.setTop (mkF m 44 #[.val (.long aa), .second, .val (.long v1), .second, .val (.long v2), .second, .val (.long v3), .second, .val (.long v4), .second, .val (.int sel), .val (.ref b1), .val (.ref b5), .val (.long qq), .second] [])) t := by
    intro t k
    show Steps p.tables e below (T10.setTop (mkF m 44 #[.val (.long aa), .second, .val (.long v1), .second, .val (.long v2), .second, .val (.long v3), .second, .val (.long v4), .second, .val (.int sel), .val (.ref b1), .val (.ref b5), .val (.long qq), .second] [])) t
    refine XS.aload X10.here hx rfl (hb hby at_44) rfl rfl ?_
    show Steps p.tables e below (T10.setTop (mkF m 46 #[.val (.long aa), .second, .val (.long v1), .second, .val (.long v2), .second, .val (.long v3), .second, .val (.long v4), .second, .val (.int sel), .val (.ref b1), .val (.ref b5), .val (.long qq), .second] [(.ref b1)])) t
    refine XS.aload X10.here hx rfl (hb hby at_46) rfl rfl ?_
    show Steps p.tables e below (T10.setTop (mkF m 48 #[.val (.long aa), .second, .val (.long v1), .second, .val (.long v2), .second, .val (.long v3), .second, .val (.long v4), .second, .val (.int sel), .val (.ref b1), .val (.ref b5), .val (.long qq), .second] [(.ref b5), (.ref b1)])) t
    refine XS.lloadN X10.here hx rfl (hb hby at_48) rfl ?_
    show Steps p.tables e below (T10.setTop (mkF m 49 #[.val (.long aa), .second, .val (.long v1), .second, .val (.long v2), .second, .val (.long v3), .second, .val (.long v4), .second, .val (.int sel), .val (.ref b1), .val (.ref b5), .val (.long qq), .second] [(.long aa), (.ref b5), (.ref b1)])) t
    refine XS.iload X10.here hx rfl (hb hby at_49) rfl ?_
    show Steps p.tables e below (T10.setTop (mkF m 51 #[.val (.long aa), .second, .val (.long v1), .second, .val (.long v2), .second, .val (.long v3), .second, .val (.long v4), .second, .val (.int sel), .val (.ref b1), .val (.ref b5), .val (.long qq), .second] [(.int sel), (.long aa), (.ref b5), (.ref b1)])) t
    refine XS.iconst X10.here hx rfl (hb hby at_51) ?_
    show Steps p.tables e below (T10.setTop (mkF m 52 #[.val (.long aa), .second, .val (.long v1), .second, .val (.long v2), .second, .val (.long v3), .second, .val (.long v4), .second, .val (.int sel), .val (.ref b1), .val (.ref b5), .val (.long qq), .second] [(.int (5 : Int32)), (.int sel), (.long aa), (.ref b5), (.ref b1)])) t
    refine XS.iushr X10.here hx rfl (hb hby at_52) rfl ?_
    show Steps p.tables e below (T10.setTop (mkF m 53 #[.val (.long aa), .second, .val (.long v1), .second, .val (.long v2), .second, .val (.long v3), .second, .val (.long v4), .second, .val (.int sel), .val (.ref b1), .val (.ref b5), .val (.long qq), .second] [(.int ((sel.toUInt32 >>> ((5 : Int32) &&& 31).toUInt32).toInt32)), (.long aa), (.ref b5), (.ref b1)])) t
    refine XS.bipush X10.here hx rfl (hb hby at_53) ?_
    show Steps p.tables e below (T10.setTop (mkF m 55 #[.val (.long aa), .second, .val (.long v1), .second, .val (.long v2), .second, .val (.long v3), .second, .val (.long v4), .second, .val (.int sel), .val (.ref b1), .val (.ref b5), .val (.long qq), .second] [(.int (31 : Int32)), (.int ((sel.toUInt32 >>> ((5 : Int32) &&& 31).toUInt32).toInt32)), (.long aa), (.ref b5), (.ref b1)])) t
    refine XS.iand X10.here hx rfl (hb hby at_55) rfl ?_
    show Steps p.tables e below (T10.setTop (mkF m 56 #[.val (.long aa), .second, .val (.long v1), .second, .val (.long v2), .second, .val (.long v3), .second, .val (.long v4), .second, .val (.int sel), .val (.ref b1), .val (.ref b5), .val (.long qq), .second] [(.int (((sel.toUInt32 >>> ((5 : Int32) &&& 31).toUInt32).toInt32) &&& (31 : Int32))), (.long aa), (.ref b5), (.ref b1)])) t
    refine XS.lload X10.here hx rfl (hb hby at_56) rfl ?_
    show Steps p.tables e below (T10.setTop (mkF m 58 #[.val (.long aa), .second, .val (.long v1), .second, .val (.long v2), .second, .val (.long v3), .second, .val (.long v4), .second, .val (.int sel), .val (.ref b1), .val (.ref b5), .val (.long qq), .second] [(.long qq), (.int (((sel.toUInt32 >>> ((5 : Int32) &&& 31).toUInt32).toInt32) &&& (31 : Int32))), (.long aa), (.ref b5), (.ref b1)])) t
    refine XS.lload X10.here hx rfl (hb hby at_58) rfl ?_
    exact k
  refine OFin.go S12 ?_
  obtain ⟨_, T13, Lc13, X13, hQ13, st13⟩ := callQ X10 hx hZ (y := (⟨"com/example/clockwrap/clockwrap/store/LongTableGetPinLaw", "run", "(Lcom/example/clockwrap/clockwrap/store/LongTable;[JJIJJ)V"⟩ : MethodName)) hown (hw _ (List.mem_of_getElem? (i := 35) rfl)) (hw _ (List.mem_of_getElem? (i := 36) rfl)) (hw _ (List.mem_of_getElem? (i := 32) rfl)) (hw _ (List.mem_of_getElem? (i := 37) rfl)) (by decide) (argsL := [(.ref b1), (.ref b5), (.long aa), (.int (((sel.toUInt32 >>> ((5 : Int32) &&& 31).toUInt32).toInt32) &&& (31 : Int32))), (.long qq), (.long v2)]) (rest := []) (rm6 l Z a0 hw [] b1 b5 aa (((sel.toUInt32 >>> ((5 : Int32) &&& 31).toUInt32).toInt32) &&& (31 : Int32)) qq v2 Wl10 (0 + 1) M10 sf10 T10.heap n0 Z10 Tb10 (by decide) ge5 Vs10 ns10 si10) (W := 0) (by decide) (by decide) rfl (g := (mkF m 60 #[.val (.long aa), .second, .val (.long v1), .second, .val (.long v2), .second, .val (.long v3), .second, .val (.long v4), .second, .val (.int sel), .val (.ref b1), .val (.ref b5), .val (.long qq), .second] [(.long v2), (.long qq), (.int (((sel.toUInt32 >>> ((5 : Int32) &&& 31).toUInt32).toInt32) &&& (31 : Int32))), (.long aa), (.ref b5), (.ref b1)])) rfl (by rw [hml]; rfl) (lenOf pd_11 rfl) rfl (by show 2 * 0 + _ ≤ _; exact Nat.le_of_eq rfl) (hb hby at_60) (Nat.le_of_ble_eq_true rfl) (Nat.le_of_ble_eq_true rfl)
  obtain ⟨Wl13, M13, sf13, rfl, N13q, K13q, Tb13, Vs13, ns13, si13⟩ := hQ13
  have Z13 : n0 ≤ T13.heap.size := Nat.le_trans Z10 K13q.1
  have N13 := Fr.app N10 N13q
  refine OFin.go st13 ?_
  show OFin p e below _ (T13.setTop (mkF m 63 #[.val (.long aa), .second, .val (.long v1), .second, .val (.long v2), .second, .val (.long v3), .second, .val (.long v4), .second, .val (.int sel), .val (.ref b1), .val (.ref b5), .val (.long qq), .second] []))
  have S14 : ∀ t, Steps p.tables e below (T13.setTop (mkF m 80 #[.val (.long aa), .second, .val (.long v1), .second, .val (.long v2), .second, .val (.long v3), .second, .val (.long v4), .second, .val (.int sel), .val (.ref b1), .val (.ref b5), .val (.long qq), .second] [(.long v3), (.long qq), (.int (((sel.toUInt32 >>> ((10 : Int32) &&& 31).toUInt32).toInt32) &&& (31 : Int32))), (.long aa), (.ref b5), (.ref b1)])) t → Steps p.tables e below (T13.setTop (mkF m 63 #[.val (.long aa), .second, .val (.long v1), .second, .val (.long v2), .second, .val (.long v3), .second, .val (.long v4), .second, .val (.int sel), .val (.ref b1), .val (.ref b5), .val (.long qq), .second] [])) t := by
    intro t k
    show Steps p.tables e below (T13.setTop (mkF m 63 #[.val (.long aa), .second, .val (.long v1), .second, .val (.long v2), .second, .val (.long v3), .second, .val (.long v4), .second, .val (.int sel), .val (.ref b1), .val (.ref b5), .val (.long qq), .second] [])) t
    refine XS.aload X13.here hx rfl (hb hby at_63) rfl rfl ?_
    show Steps p.tables e below (T13.setTop (mkF m 65 #[.val (.long aa), .second, .val (.long v1), .second, .val (.long v2), .second, .val (.long v3), .second, .val (.long v4), .second, .val (.int sel), .val (.ref b1), .val (.ref b5), .val (.long qq), .second] [(.ref b1)])) t
    refine XS.aload X13.here hx rfl (hb hby at_65) rfl rfl ?_
    show Steps p.tables e below (T13.setTop (mkF m 67 #[.val (.long aa), .second, .val (.long v1), .second, .val (.long v2), .second, .val (.long v3), .second, .val (.long v4), .second, .val (.int sel), .val (.ref b1), .val (.ref b5), .val (.long qq), .second] [(.ref b5), (.ref b1)])) t
    refine XS.lloadN X13.here hx rfl (hb hby at_67) rfl ?_
    show Steps p.tables e below (T13.setTop (mkF m 68 #[.val (.long aa), .second, .val (.long v1), .second, .val (.long v2), .second, .val (.long v3), .second, .val (.long v4), .second, .val (.int sel), .val (.ref b1), .val (.ref b5), .val (.long qq), .second] [(.long aa), (.ref b5), (.ref b1)])) t
    refine XS.iload X13.here hx rfl (hb hby at_68) rfl ?_
    show Steps p.tables e below (T13.setTop (mkF m 70 #[.val (.long aa), .second, .val (.long v1), .second, .val (.long v2), .second, .val (.long v3), .second, .val (.long v4), .second, .val (.int sel), .val (.ref b1), .val (.ref b5), .val (.long qq), .second] [(.int sel), (.long aa), (.ref b5), (.ref b1)])) t
    refine XS.bipush X13.here hx rfl (hb hby at_70) ?_
    show Steps p.tables e below (T13.setTop (mkF m 72 #[.val (.long aa), .second, .val (.long v1), .second, .val (.long v2), .second, .val (.long v3), .second, .val (.long v4), .second, .val (.int sel), .val (.ref b1), .val (.ref b5), .val (.long qq), .second] [(.int (10 : Int32)), (.int sel), (.long aa), (.ref b5), (.ref b1)])) t
    refine XS.iushr X13.here hx rfl (hb hby at_72) rfl ?_
    show Steps p.tables e below (T13.setTop (mkF m 73 #[.val (.long aa), .second, .val (.long v1), .second, .val (.long v2), .second, .val (.long v3), .second, .val (.long v4), .second, .val (.int sel), .val (.ref b1), .val (.ref b5), .val (.long qq), .second] [(.int ((sel.toUInt32 >>> ((10 : Int32) &&& 31).toUInt32).toInt32)), (.long aa), (.ref b5), (.ref b1)])) t
    refine XS.bipush X13.here hx rfl (hb hby at_73) ?_
    show Steps p.tables e below (T13.setTop (mkF m 75 #[.val (.long aa), .second, .val (.long v1), .second, .val (.long v2), .second, .val (.long v3), .second, .val (.long v4), .second, .val (.int sel), .val (.ref b1), .val (.ref b5), .val (.long qq), .second] [(.int (31 : Int32)), (.int ((sel.toUInt32 >>> ((10 : Int32) &&& 31).toUInt32).toInt32)), (.long aa), (.ref b5), (.ref b1)])) t
    refine XS.iand X13.here hx rfl (hb hby at_75) rfl ?_
    show Steps p.tables e below (T13.setTop (mkF m 76 #[.val (.long aa), .second, .val (.long v1), .second, .val (.long v2), .second, .val (.long v3), .second, .val (.long v4), .second, .val (.int sel), .val (.ref b1), .val (.ref b5), .val (.long qq), .second] [(.int (((sel.toUInt32 >>> ((10 : Int32) &&& 31).toUInt32).toInt32) &&& (31 : Int32))), (.long aa), (.ref b5), (.ref b1)])) t
    refine XS.lload X13.here hx rfl (hb hby at_76) rfl ?_
    show Steps p.tables e below (T13.setTop (mkF m 78 #[.val (.long aa), .second, .val (.long v1), .second, .val (.long v2), .second, .val (.long v3), .second, .val (.long v4), .second, .val (.int sel), .val (.ref b1), .val (.ref b5), .val (.long qq), .second] [(.long qq), (.int (((sel.toUInt32 >>> ((10 : Int32) &&& 31).toUInt32).toInt32) &&& (31 : Int32))), (.long aa), (.ref b5), (.ref b1)])) t
    refine XS.lload X13.here hx rfl (hb hby at_78) rfl ?_
    exact k
  refine OFin.go S14 ?_
  obtain ⟨_, T15, Lc15, X15, hQ15, st15⟩ := callQ X13 hx hZ (y := (⟨"com/example/clockwrap/clockwrap/store/LongTableGetPinLaw", "run", "(Lcom/example/clockwrap/clockwrap/store/LongTable;[JJIJJ)V"⟩ : MethodName)) hown (hw _ (List.mem_of_getElem? (i := 35) rfl)) (hw _ (List.mem_of_getElem? (i := 36) rfl)) (hw _ (List.mem_of_getElem? (i := 32) rfl)) (hw _ (List.mem_of_getElem? (i := 37) rfl)) (by decide) (argsL := [(.ref b1), (.ref b5), (.long aa), (.int (((sel.toUInt32 >>> ((10 : Int32) &&& 31).toUInt32).toInt32) &&& (31 : Int32))), (.long qq), (.long v3)]) (rest := []) (rm6 l Z a0 hw [] b1 b5 aa (((sel.toUInt32 >>> ((10 : Int32) &&& 31).toUInt32).toInt32) &&& (31 : Int32)) qq v3 Wl13 ((0 + 1) + 1) M13 sf13 T13.heap n0 Z13 Tb13 (by decide) ge5 Vs13 ns13 si13) (W := 0) (by decide) (by decide) rfl (g := (mkF m 80 #[.val (.long aa), .second, .val (.long v1), .second, .val (.long v2), .second, .val (.long v3), .second, .val (.long v4), .second, .val (.int sel), .val (.ref b1), .val (.ref b5), .val (.long qq), .second] [(.long v3), (.long qq), (.int (((sel.toUInt32 >>> ((10 : Int32) &&& 31).toUInt32).toInt32) &&& (31 : Int32))), (.long aa), (.ref b5), (.ref b1)])) rfl (by rw [hml]; rfl) (lenOf pd_11 rfl) rfl (by show 2 * 0 + _ ≤ _; exact Nat.le_of_eq rfl) (hb hby at_80) (Nat.le_of_ble_eq_true rfl) (Nat.le_of_ble_eq_true rfl)
  obtain ⟨Wl15, M15, sf15, rfl, N15q, K15q, Tb15, Vs15, ns15, si15⟩ := hQ15
  have Z15 : n0 ≤ T15.heap.size := Nat.le_trans Z13 K15q.1
  have N15 := Fr.app N13 N15q
  refine OFin.go st15 ?_
  show OFin p e below _ (T15.setTop (mkF m 83 #[.val (.long aa), .second, .val (.long v1), .second, .val (.long v2), .second, .val (.long v3), .second, .val (.long v4), .second, .val (.int sel), .val (.ref b1), .val (.ref b5), .val (.long qq), .second] []))
  have S16 : ∀ t, Steps p.tables e below (T15.setTop (mkF m 100 #[.val (.long aa), .second, .val (.long v1), .second, .val (.long v2), .second, .val (.long v3), .second, .val (.long v4), .second, .val (.int sel), .val (.ref b1), .val (.ref b5), .val (.long qq), .second] [(.long v4), (.long qq), (.int (((sel.toUInt32 >>> ((15 : Int32) &&& 31).toUInt32).toInt32) &&& (31 : Int32))), (.long aa), (.ref b5), (.ref b1)])) t → Steps p.tables e below (T15.setTop (mkF m 83 #[.val (.long aa), .second, .val (.long v1), .second, .val (.long v2), .second, .val (.long v3), .second, .val (.long v4), .second, .val (.int sel), .val (.ref b1), .val (.ref b5), .val (.long qq), .second] [])) t := by
    intro t k
    show Steps p.tables e below (T15.setTop (mkF m 83 #[.val (.long aa), .second, .val (.long v1), .second, .val (.long v2), .second, .val (.long v3), .second, .val (.long v4), .second, .val (.int sel), .val (.ref b1), .val (.ref b5), .val (.long qq), .second] [])) t
    refine XS.aload X15.here hx rfl (hb hby at_83) rfl rfl ?_
    show Steps p.tables e below (T15.setTop (mkF m 85 #[.val (.long aa), .second, .val (.long v1), .second, .val (.long v2), .second, .val (.long v3), .second, .val (.long v4), .second, .val (.int sel), .val (.ref b1), .val (.ref b5), .val (.long qq), .second] [(.ref b1)])) t
    refine XS.aload X15.here hx rfl (hb hby at_85) rfl rfl ?_
    show Steps p.tables e below (T15.setTop (mkF m 87 #[.val (.long aa), .second, .val (.long v1), .second, .val (.long v2), .second, .val (.long v3), .second, .val (.long v4), .second, .val (.int sel), .val (.ref b1), .val (.ref b5), .val (.long qq), .second] [(.ref b5), (.ref b1)])) t
    refine XS.lloadN X15.here hx rfl (hb hby at_87) rfl ?_
    show Steps p.tables e below (T15.setTop (mkF m 88 #[.val (.long aa), .second, .val (.long v1), .second, .val (.long v2), .second, .val (.long v3), .second, .val (.long v4), .second, .val (.int sel), .val (.ref b1), .val (.ref b5), .val (.long qq), .second] [(.long aa), (.ref b5), (.ref b1)])) t
    refine XS.iload X15.here hx rfl (hb hby at_88) rfl ?_
    show Steps p.tables e below (T15.setTop (mkF m 90 #[.val (.long aa), .second, .val (.long v1), .second, .val (.long v2), .second, .val (.long v3), .second, .val (.long v4), .second, .val (.int sel), .val (.ref b1), .val (.ref b5), .val (.long qq), .second] [(.int sel), (.long aa), (.ref b5), (.ref b1)])) t
    refine XS.bipush X15.here hx rfl (hb hby at_90) ?_
    show Steps p.tables e below (T15.setTop (mkF m 92 #[.val (.long aa), .second, .val (.long v1), .second, .val (.long v2), .second, .val (.long v3), .second, .val (.long v4), .second, .val (.int sel), .val (.ref b1), .val (.ref b5), .val (.long qq), .second] [(.int (15 : Int32)), (.int sel), (.long aa), (.ref b5), (.ref b1)])) t
    refine XS.iushr X15.here hx rfl (hb hby at_92) rfl ?_
    show Steps p.tables e below (T15.setTop (mkF m 93 #[.val (.long aa), .second, .val (.long v1), .second, .val (.long v2), .second, .val (.long v3), .second, .val (.long v4), .second, .val (.int sel), .val (.ref b1), .val (.ref b5), .val (.long qq), .second] [(.int ((sel.toUInt32 >>> ((15 : Int32) &&& 31).toUInt32).toInt32)), (.long aa), (.ref b5), (.ref b1)])) t
    refine XS.bipush X15.here hx rfl (hb hby at_93) ?_
    show Steps p.tables e below (T15.setTop (mkF m 95 #[.val (.long aa), .second, .val (.long v1), .second, .val (.long v2), .second, .val (.long v3), .second, .val (.long v4), .second, .val (.int sel), .val (.ref b1), .val (.ref b5), .val (.long qq), .second] [(.int (31 : Int32)), (.int ((sel.toUInt32 >>> ((15 : Int32) &&& 31).toUInt32).toInt32)), (.long aa), (.ref b5), (.ref b1)])) t
    refine XS.iand X15.here hx rfl (hb hby at_95) rfl ?_
    show Steps p.tables e below (T15.setTop (mkF m 96 #[.val (.long aa), .second, .val (.long v1), .second, .val (.long v2), .second, .val (.long v3), .second, .val (.long v4), .second, .val (.int sel), .val (.ref b1), .val (.ref b5), .val (.long qq), .second] [(.int (((sel.toUInt32 >>> ((15 : Int32) &&& 31).toUInt32).toInt32) &&& (31 : Int32))), (.long aa), (.ref b5), (.ref b1)])) t
    refine XS.lload X15.here hx rfl (hb hby at_96) rfl ?_
    show Steps p.tables e below (T15.setTop (mkF m 98 #[.val (.long aa), .second, .val (.long v1), .second, .val (.long v2), .second, .val (.long v3), .second, .val (.long v4), .second, .val (.int sel), .val (.ref b1), .val (.ref b5), .val (.long qq), .second] [(.long qq), (.int (((sel.toUInt32 >>> ((15 : Int32) &&& 31).toUInt32).toInt32) &&& (31 : Int32))), (.long aa), (.ref b5), (.ref b1)])) t
    refine XS.lload X15.here hx rfl (hb hby at_98) rfl ?_
    exact k
  refine OFin.go S16 ?_
  obtain ⟨_, T17, Lc17, X17, hQ17, st17⟩ := callQ X15 hx hZ (y := (⟨"com/example/clockwrap/clockwrap/store/LongTableGetPinLaw", "run", "(Lcom/example/clockwrap/clockwrap/store/LongTable;[JJIJJ)V"⟩ : MethodName)) hown (hw _ (List.mem_of_getElem? (i := 35) rfl)) (hw _ (List.mem_of_getElem? (i := 36) rfl)) (hw _ (List.mem_of_getElem? (i := 32) rfl)) (hw _ (List.mem_of_getElem? (i := 37) rfl)) (by decide) (argsL := [(.ref b1), (.ref b5), (.long aa), (.int (((sel.toUInt32 >>> ((15 : Int32) &&& 31).toUInt32).toInt32) &&& (31 : Int32))), (.long qq), (.long v4)]) (rest := []) (rm6 l Z a0 hw [] b1 b5 aa (((sel.toUInt32 >>> ((15 : Int32) &&& 31).toUInt32).toInt32) &&& (31 : Int32)) qq v4 Wl15 (((0 + 1) + 1) + 1) M15 sf15 T15.heap n0 Z15 Tb15 (by decide) ge5 Vs15 ns15 si15) (W := 0) (by decide) (by decide) rfl (g := (mkF m 100 #[.val (.long aa), .second, .val (.long v1), .second, .val (.long v2), .second, .val (.long v3), .second, .val (.long v4), .second, .val (.int sel), .val (.ref b1), .val (.ref b5), .val (.long qq), .second] [(.long v4), (.long qq), (.int (((sel.toUInt32 >>> ((15 : Int32) &&& 31).toUInt32).toInt32) &&& (31 : Int32))), (.long aa), (.ref b5), (.ref b1)])) rfl (by rw [hml]; rfl) (lenOf pd_11 rfl) rfl (by show 2 * 0 + _ ≤ _; exact Nat.le_of_eq rfl) (hb hby at_100) (Nat.le_of_ble_eq_true rfl) (Nat.le_of_ble_eq_true rfl)
  obtain ⟨Wl17, M17, sf17, rfl, N17q, K17q, Tb17, Vs17, ns17, si17⟩ := hQ17
  have Z17 : n0 ≤ T17.heap.size := Nat.le_trans Z15 K17q.1
  have N17 := Fr.app N15 N17q
  refine OFin.go st17 ?_
  show OFin p e below _ (T17.setTop (mkF m 103 #[.val (.long aa), .second, .val (.long v1), .second, .val (.long v2), .second, .val (.long v3), .second, .val (.long v4), .second, .val (.int sel), .val (.ref b1), .val (.ref b5), .val (.long qq), .second] []))
  have S18 : ∀ t, Steps p.tables e below (T17.setTop (mkF m 107 #[.val (.long aa), .second, .val (.long v1), .second, .val (.long v2), .second, .val (.long v3), .second, .val (.long v4), .second, .val (.int sel), .val (.ref b1), .val (.ref b5), .val (.long qq), .second] [(.long qq), (.ref b1)])) t → Steps p.tables e below (T17.setTop (mkF m 103 #[.val (.long aa), .second, .val (.long v1), .second, .val (.long v2), .second, .val (.long v3), .second, .val (.long v4), .second, .val (.int sel), .val (.ref b1), .val (.ref b5), .val (.long qq), .second] [])) t := by
    intro t k
    show Steps p.tables e below (T17.setTop (mkF m 103 #[.val (.long aa), .second, .val (.long v1), .second, .val (.long v2), .second, .val (.long v3), .second, .val (.long v4), .second, .val (.int sel), .val (.ref b1), .val (.ref b5), .val (.long qq), .second] [])) t
    refine XS.aload X17.here hx rfl (hb hby at_103) rfl rfl ?_
    show Steps p.tables e below (T17.setTop (mkF m 105 #[.val (.long aa), .second, .val (.long v1), .second, .val (.long v2), .second, .val (.long v3), .second, .val (.long v4), .second, .val (.int sel), .val (.ref b1), .val (.ref b5), .val (.long qq), .second] [(.ref b1)])) t
    refine XS.lload X17.here hx rfl (hb hby at_105) rfl ?_
    exact k
  refine OFin.go S18 ?_
  obtain ⟨_, T19, Lc19, X19, hQ19, st19⟩ := virtQ X17 hx hZ (y := (⟨"com/example/clockwrap/clockwrap/store/LongTable", "get", "(J)J"⟩ : MethodName)) hown (hw _ (List.mem_of_getElem? (i := 82) rfl)) (hw _ (List.mem_of_getElem? (i := 84) rfl)) (hw _ (List.mem_of_getElem? (i := 2) rfl)) (hw _ (List.mem_of_getElem? (i := 86) rfl)) (hw _ (List.mem_of_getElem? (i := 83) rfl)) (hw _ (List.mem_of_getElem? (i := 85) rfl)) (by decide) Tb17.exa (argsL := [(.long qq)]) (rest := []) (rm15 l Z a0 hw [] b1 qq Wl17 ((((0 + 1) + 1) + 1) + 1) M17 T17.heap n0 Z17 Tb17 (by decide)) (W := 0) (by decide) (by decide) rfl (g := (mkF m 107 #[.val (.long aa), .second, .val (.long v1), .second, .val (.long v2), .second, .val (.long v3), .second, .val (.long v4), .second, .val (.int sel), .val (.ref b1), .val (.ref b5), .val (.long qq), .second] [(.long qq), (.ref b1)])) rfl (by rw [hml]; rfl) (lenOf pd_8 rfl) rfl (by show 2 * 0 + _ ≤ _; exact Nat.le_of_eq rfl) (hb hby at_107) (Nat.le_of_ble_eq_true rfl) (Nat.le_of_ble_eq_true rfl)
  obtain ⟨gv19, rfl, N19q, e19, hg1, hg2⟩ := hQ19
  have N19 := Fr.app N17 N19q
  refine OFin.go st19 ?_
  show OFin p e below _ (T19.setTop (mkF m 110 #[.val (.long aa), .second, .val (.long v1), .second, .val (.long v2), .second, .val (.long v3), .second, .val (.long v4), .second, .val (.int sel), .val (.ref b1), .val (.ref b5), .val (.long qq), .second] [(.long gv19)]))
  have S20 : ∀ t, Steps p.tables e below (T19.setTop (mkF m 115 #[.val (.long aa), .second, .val (.long v1), .second, .val (.long v2), .second, .val (.long v3), .second, .val (.long v4), .second, .val (.int sel), .val (.ref b1), .val (.ref b5), .val (.long qq), .second] [(.int (lcmpW gv19 (sf17 1)))])) t → Steps p.tables e below (T19.setTop (mkF m 110 #[.val (.long aa), .second, .val (.long v1), .second, .val (.long v2), .second, .val (.long v3), .second, .val (.long v4), .second, .val (.int sel), .val (.ref b1), .val (.ref b5), .val (.long qq), .second] [(.long gv19)])) t := by
    intro t k
    show Steps p.tables e below (T19.setTop (mkF m 110 #[.val (.long aa), .second, .val (.long v1), .second, .val (.long v2), .second, .val (.long v3), .second, .val (.long v4), .second, .val (.int sel), .val (.ref b1), .val (.ref b5), .val (.long qq), .second] [(.long gv19)])) t
    refine XS.aload X19.here hx rfl (hb hby at_110) rfl rfl ?_
    show Steps p.tables e below (T19.setTop (mkF m 112 #[.val (.long aa), .second, .val (.long v1), .second, .val (.long v2), .second, .val (.long v3), .second, .val (.long v4), .second, .val (.int sel), .val (.ref b1), .val (.ref b5), .val (.long qq), .second] [(.ref b5), (.long gv19)])) t
    refine XS.iconst X19.here hx rfl (hb hby at_112) ?_
    show Steps p.tables e below (T19.setTop (mkF m 113 #[.val (.long aa), .second, .val (.long v1), .second, .val (.long v2), .second, .val (.long v3), .second, .val (.long v4), .second, .val (.int sel), .val (.ref b1), .val (.ref b5), .val (.long qq), .second] [(.int (1 : Int32)), (.ref b5), (.long gv19)])) t
    refine rdJ X19 hx hZ e19 Vs17 (i := 1) (by decide) rfl (by decide) (x := (.long (sf17 1))) rfl (g := (mkF m 113 #[.val (.long aa), .second, .val (.long v1), .second, .val (.long v2), .second, .val (.long v3), .second, .val (.long v4), .second, .val (.int sel), .val (.ref b1), .val (.ref b5), .val (.long qq), .second] [(.int (1 : Int32)), (.ref b5), (.long gv19)])) rfl rfl (hb hby at_113) ?_
    show Steps p.tables e below (T19.setTop (mkF m 114 #[.val (.long aa), .second, .val (.long v1), .second, .val (.long v2), .second, .val (.long v3), .second, .val (.long v4), .second, .val (.int sel), .val (.ref b1), .val (.ref b5), .val (.long qq), .second] [(.long (sf17 1)), (.long gv19)])) t
    refine XS.lcmp X19.here hx rfl (hb hby at_114) rfl ?_
    exact k
  refine OFin.go S20 ?_
  have S21 : ∀ t, Steps p.tables e below (T19.setTop (mkF m 118 #[.val (.long aa), .second, .val (.long v1), .second, .val (.long v2), .second, .val (.long v3), .second, .val (.long v4), .second, .val (.int sel), .val (.ref b1), .val (.ref b5), .val (.long qq), .second] [])) t → Steps p.tables e below (T19.setTop (mkF m 115 #[.val (.long aa), .second, .val (.long v1), .second, .val (.long v2), .second, .val (.long v3), .second, .val (.long v4), .second, .val (.int sel), .val (.ref b1), .val (.ref b5), .val (.long qq), .second] [(.int (lcmpW gv19 (sf17 1)))])) t := by
    intro t k
    show Steps p.tables e below (T19.setTop (mkF m 115 #[.val (.long aa), .second, .val (.long v1), .second, .val (.long v2), .second, .val (.long v3), .second, .val (.long v4), .second, .val (.int sel), .val (.ref b1), .val (.ref b5), .val (.long qq), .second] [(.int (lcmpW gv19 (sf17 1)))])) t
    refine XS.ifNo X19.here hx rfl (hb hby at_115) rfl (lc_ne_f (STI.get si17 hg1 hg2)) ?_
    exact k
  refine OFin.go S21 ?_
  have S22 : ∀ t, Steps p.tables e below (T19.setTop (mkF m 123 #[.val (.long aa), .second, .val (.long v1), .second, .val (.long v2), .second, .val (.long v3), .second, .val (.long v4), .second, .val (.int sel), .val (.ref b1), .val (.ref b5), .val (.long qq), .second] [(.int (1 : Int32))])) t → Steps p.tables e below (T19.setTop (mkF m 118 #[.val (.long aa), .second, .val (.long v1), .second, .val (.long v2), .second, .val (.long v3), .second, .val (.long v4), .second, .val (.int sel), .val (.ref b1), .val (.ref b5), .val (.long qq), .second] [])) t := by
    intro t k
    show Steps p.tables e below (T19.setTop (mkF m 118 #[.val (.long aa), .second, .val (.long v1), .second, .val (.long v2), .second, .val (.long v3), .second, .val (.long v4), .second, .val (.int sel), .val (.ref b1), .val (.ref b5), .val (.long qq), .second] [])) t
    refine XS.iconst X19.here hx rfl (hb hby at_118) ?_
    show Steps p.tables e below (T19.setTop (mkF m 119 #[.val (.long aa), .second, .val (.long v1), .second, .val (.long v2), .second, .val (.long v3), .second, .val (.long v4), .second, .val (.int sel), .val (.ref b1), .val (.ref b5), .val (.long qq), .second] [(.int (1 : Int32))])) t
    refine XS.goto X19.here hx rfl (pc0 := 119) (pc' := 123) rfl (hb hby at_119) (by decide) (by decide) ?_
    exact k
  refine OFin.go S22 ?_
  exact finZ X19 hx Bd.notSynchronized (t := .boolean) Bd.returns (by simp) (hb hby at_123) rfl (by decide) (by decide) (⟨congrArg (fun z => some (Value.int z)) (rfl : (1 : Int32) = (1 : Int32)), N19⟩)
set_option maxRecDepth 65536 in
set_option maxHeartbeats 40000000 in
theorem comes_1 {Post : Tables → Env → Array Value → State → Outcome → State → Prop} (hpost : ∀ tb e args s v u, (limb_1_1.after args s (.returned v) u = true ∧ limb_1_2.after args s (.returned v) u = true ∧ True) → FrameEnd s (.returned v) u (Jvm.fieldLocs frame_1_writes args s ++ Jvm.arrayLocs frame_1_arrays args s ++ Jvm.staticLocs frame_1_statics s) 280 2880 → Post tb e args s (.returned v) u) :
    ArmFor flags0 classFile x code maxLocals ret World_1 tables_1 room_1 Calls_1 rest_1 Pre_1 Post := by
  intro l hfl _ _ p e ha hc hk s m args below hf hA hF happ hP
  obtain ⟨hcalls, hrest, hpre⟩ := hP
  obtain ⟨-, -, -, hnamed, -, -, -, hat⟩ := (Spec.applies_iff hf).mp happ
  obtain ⟨hg, hn⟩ := and_e (Cond.before_iff.mp (show (Jvm.Cond.and given_1 narrow_1).before args s = true from hpre))
  obtain ⟨gg2, gg3⟩ := and_e hg
  obtain ⟨gg4, gg5⟩ := and_e gg3
  obtain ⟨gg6, gg7⟩ := and_e gg5
  obtain ⟨gg8, gg9⟩ := and_e gg7
  obtain ⟨gg10, gg11⟩ := and_e gg9
  obtain ⟨gg12, gg13⟩ := and_e gg11
  obtain ⟨w0, w1, w2, w3, w4, w5, rfl⟩ : ∃ w0 w1 w2 w3 w4 w5 : Value, args = #[w0, w1, w2, w3, w4, w5] := by
    have hs : args.size = 6 := by simpa [Cond.value, given_1] using gg2
    obtain ⟨L⟩ := args
    match L, hs with
    | [w0, w1, w2, w3, w4, w5], _ => exact ⟨w0, w1, w2, w3, w4, w5, rfl⟩
  have hw := fun d (hd : d ∈ tables_1) => atoms_spec (ws := Jvm.Cond.code x code maxLocals ret :: tables_1) hat d (List.mem_cons_of_mem _ hd)
  have hfit : Fit s := fun {y c} hc i hi => by
    obtain ⟨ha, rfl⟩ := Array.getElem?_eq_some_iff.mp hc
    have q := List.all_eq_true.mp ((Array.all_eq_true_iff_forall_mem.mp hF) _ (Array.getElem_mem ha)) i (List.mem_range.mpr hi)
    simpa [Array.getElem?_eq_getElem hi] using q
  obtain ⟨i0, ei0⟩ := isL_v gg4
  obtain rfl : w0 = (.long i0) := Option.some.inj ei0
  obtain ⟨i1, ei1⟩ := isL_v gg6
  obtain rfl : w1 = (.long i1) := Option.some.inj ei1
  obtain ⟨i2, ei2⟩ := isL_v gg8
  obtain rfl : w2 = (.long i2) := Option.some.inj ei2
  obtain ⟨i3, ei3⟩ := isL_v gg10
  obtain rfl : w3 = (.long i3) := Option.some.inj ei3
  obtain ⟨i4, ei4⟩ := isL_v gg12
  obtain rfl : w4 = (.long i4) := Option.some.inj ei4
  obtain ⟨i5, ei5⟩ := is_v gg13
  obtain rfl : w5 = (.int i5) := Option.some.inj ei5
  obtain ⟨n, o, h1, h2, h3, _, L, rfl, ⟨rfl, N⟩, hq⟩ := rm0 l s _ hw tables_1 i0 i1 i2 i3 i4 i5 s.heap s.heap.size (Nat.le_refl _)  p e ha hc hk s m _ below hf ((Spec.applies_iff_loose hf).mp happ).1 ⟨rfl, State.Warmed39.refl s, rfl⟩ trivial
  refine ⟨n, _, h1, h2, h3, hpost _ _ _ _ _ _ ⟨Cond.after_iff.mpr rfl, Cond.after_iff.mpr (eq_i res_at (Term.int_eval (1)) rfl), trivial⟩ ⟨hq.1, hq.2.1, (hq.2.2.sift fun y hy => Or.inr (N y hy)).mono (by decide) (by decide)⟩⟩
theorem main_1_1 : Claimed_1_1 := comes_1 fun _ _ _ _ _ _ h hF => ⟨h.1, hF⟩
theorem main_1_2 : Claimed_1_2 := comes_1 fun _ _ _ _ _ _ h hF => ⟨h.2.1, hF⟩
end Jvm.Pilot.@@N@@
namespace Jvm.Pilot.@@N@@
open Jvm Jvm.ClassFile Sem Op Lib Jvm.Free Jvm.Stand Jvm.Pilot.@@N@@.Jvm.D
/-! MADE BY PROGRAM (witnessworld.py) out of the Statement's table words and the real class files: 18 classes; the members and pool entries that the words name. The judged class is class 1, her method 1. -/
namespace start1
open Jvm.ClassFile
def u (s : String) : CpInfo := .utf8 (stringToUtf16 s)
/-- a pool by its gaps: so many unusable entries, then the entry; so many at the end -/
def gap : Nat → List CpInfo → List CpInfo
  | 0, r => r
  | n + 1, r => .unusable :: gap n r
def poolList (es : List (Nat × CpInfo)) (last : Nat) : List CpInfo := es.foldr (fun e r => gap e.1 (e.2 :: r)) (gap last [])
def pool (es : List (Nat × CpInfo)) (last : Nat) : Array CpInfo := ⟨poolList es last⟩
def fileOf (pool : Array CpInfo) (this : Nat) (attrs : Array Attribute := #[]) (ms : Array MethodInfo := #[]) (fl : Nat := 33) (sup : Nat := 0) (ifs : Array Nat := #[]) (fds : Array FieldInfo := #[]) : ClassFile where
  minorVersion := 0
  majorVersion := 65
  constantPool := pool
  accessFlags := fl
  thisClass := this
  superClass := sup
  interfaces := ifs
  fields := fds
  methods := ms
  attributes := attrs
def plain (name : String) (sup : Option ClassId) : Class where
  name := name
  kind := .ordinary
  loader := none
  accessFlags := 33
  super := sup
  interfaces := #[]
  cf := none
  fields := #[]
  methods := #[]
  instanceTypes := #[]
  staticTypes := #[]
  resolved := #[]
  callSites := []
  init := .initialized
  statics := none
  mirror := none

def pool0 : Array CpInfo := pool [(5, u "<init>"), (0, u "()V"), (1, .class_ 10), (1, u "java/lang/Object")] 113

def k0c0 : Code := { maxStack := 0, maxLocals := 1, code := object_method_1_code, exceptionTable := #[], attributes := #[] }
def k0m0 : Method := { name := "<init>", desc := "()V", sig := { parameters := [], returnType := none }, accessFlags := 1, code := some k0c0 }
/-- java/lang/Object -/
def k0 : Class := { plain "java/lang/Object" none with
  accessFlags := 33
  interfaces := #[]
  cf := some (fileOf pool0 8 #[] #[{ accessFlags := 1, nameIndex := 5, descriptorIndex := 6, attributes := #[] }] 33 0 #[] #[])
  fields := #[]
  methods := #[k0m0]
  instanceTypes := #[]
  staticTypes := #[]
  resolved := Array.replicate 124 none
  statics := none }

def pool1 : Array CpInfo := pool [(2, .class_ 4), (0, .nameAndType 5 6), (0, u "java/lang/Object"), (0, u "<init>"), (0, u "()V"), (0, .class_ 8), (0, u "com/example/clockwrap/clockwrap/store/LongTable"), (0, .methodref 7 3), (0, .methodref 11 12), (0, .class_ 13), (0, .nameAndType 14 15), (0, u "com/example/clockwrap/clockwrap/store/LongTableGetPinLaw"), (0, u "key"), (0, u "(JI)J"), (0, .methodref 11 17), (0, .nameAndType 18 19), (0, u "run"), (0, u "(Lcom/example/clockwrap/clockwrap/store/LongTable;[JJIJJ)V"), (0, .methodref 7 21), (0, .nameAndType 22 23), (0, u "get"), (0, u "(J)J"), (0, .long 3733484091090141184), (1, .methodref 7 27), (0, .nameAndType 28 29), (0, u "add"), (0, u "(J)Z"), (0, .methodref 7 31), (0, .nameAndType 32 29), (0, u "remove"), (0, .methodref 7 34), (0, .nameAndType 35 36), (0, u "put"), (0, u "(JJ)V"), (2, u "law"), (0, u "(JJJJJI)Z")] 5

def k1m0 : Method := { name := "<init>", desc := "()V", sig := { parameters := [], returnType := none }, accessFlags := 1, code := none }
def k1c1 : Code := { maxStack := 9, maxLocals := 15, code := code, exceptionTable := #[], attributes := #[] }
def k1m1 : Method := { name := "law", desc := "(JJJJJI)Z", sig := { parameters := [.long, .long, .long, .long, .long, .int], returnType := some .boolean }, accessFlags := 9, code := some k1c1 }
def k1c2 : Code := { maxStack := 6, maxLocals := 3, code := method_3_code, exceptionTable := #[], attributes := #[] }
def k1m2 : Method := { name := "key", desc := "(JI)J", sig := { parameters := [.long, .int], returnType := some .long }, accessFlags := 10, code := some k1c2 }
def k1c3 : Code := { maxStack := 5, maxLocals := 12, code := method_4_code, exceptionTable := #[], attributes := #[] }
def k1m3 : Method := { name := "run", desc := "(Lcom/example/clockwrap/clockwrap/store/LongTable;[JJIJJ)V", sig := { parameters := [(.object "com/example/clockwrap/clockwrap/store/LongTable"), (.array .long), .long, .int, .long, .long], returnType := none }, accessFlags := 10, code := some k1c3 }
/-- com/example/clockwrap/clockwrap/store/LongTableGetPinLaw -/
def k1 : Class := { plain "com/example/clockwrap/clockwrap/store/LongTableGetPinLaw" (some 0) with
  accessFlags := 49
  interfaces := #[]
  cf := some (fileOf pool1 11 #[] #[{ accessFlags := 1, nameIndex := 5, descriptorIndex := 6, attributes := #[] }, { accessFlags := 9, nameIndex := 39, descriptorIndex := 40, attributes := #[] }, { accessFlags := 10, nameIndex := 14, descriptorIndex := 15, attributes := #[] }, { accessFlags := 10, nameIndex := 18, descriptorIndex := 19, attributes := #[] }] 49 2 #[] #[])
  fields := #[]
  methods := #[k1m0, k1m1, k1m2, k1m3]
  instanceTypes := #[]
  staticTypes := #[]
  resolved := Array.replicate 46 none
  statics := none }

def pool2 : Array CpInfo := pool [(1, .class_ 2), (0, u "com/example/clockwrap/clockwrap/store/LongTable"), (0, .methodref 4 5), (0, .class_ 6), (0, .nameAndType 7 8), (0, u "java/lang/Object"), (0, u "<init>"), (0, u "()V"), (0, .class_ 10), (0, u "com/example/clockwrap/clockwrap/store/LongTable$Part"), (0, .fieldref 1 12), (0, .nameAndType 13 14), (0, u "parts"), (0, u "[Lcom/example/clockwrap/clockwrap/store/LongTable$Part;"), (0, .methodref 9 5), (0, .fieldref 1 17), (0, .nameAndType 18 19), (0, u "size"), (0, u "I"), (0, .fieldref 1 21), (0, .nameAndType 22 23), (0, u "hasZero"), (0, u "Z"), (0, .methodref 1 25), (0, .nameAndType 26 27), (0, u "part"), (0, u "(J)Lcom/example/clockwrap/clockwrap/store/LongTable$Part;"), (3, u "(J)Z"), (0, .methodref 9 33), (0, .nameAndType 34 31), (0, u "add"), (0, .fieldref 1 36), (0, .nameAndType 37 38), (0, u "zeroValue"), (0, u "J"), (0, .methodref 9 40), (0, .nameAndType 41 42), (0, u "put"), (0, u "(JJ)Z"), (0, .methodref 9 44), (0, .nameAndType 45 46), (0, u "get"), (0, u "(J)J"), (0, .methodref 9 48), (0, .nameAndType 49 31), (0, u "remove"), (0, .long 11400714819323198485), (3, u "SPREAD"), (1, u "PART_BITS"), (1, u "PARTS"), (5, u "(JJ)V")] 5

def k2c0 : Code := { maxStack := 4, maxLocals := 2, code := prog_32_method_1_code, exceptionTable := #[], attributes := #[] }
def k2m0 : Method := { name := "<init>", desc := "()V", sig := { parameters := [], returnType := none }, accessFlags := 0, code := some k2c0 }
def k2c1 : Code := { maxStack := 4, maxLocals := 4, code := prog_32_method_4_code, exceptionTable := #[], attributes := #[] }
def k2m1 : Method := { name := "add", desc := "(J)Z", sig := { parameters := [.long], returnType := some .boolean }, accessFlags := 0, code := some k2c1 }
def k2c2 : Code := { maxStack := 5, maxLocals := 6, code := prog_32_method_5_code, exceptionTable := #[], attributes := #[] }
def k2m2 : Method := { name := "put", desc := "(JJ)V", sig := { parameters := [.long, .long], returnType := none }, accessFlags := 0, code := some k2c2 }
def k2c3 : Code := { maxStack := 4, maxLocals := 3, code := prog_32_method_6_code, exceptionTable := #[], attributes := #[] }
def k2m3 : Method := { name := "get", desc := "(J)J", sig := { parameters := [.long], returnType := some .long }, accessFlags := 0, code := some k2c3 }
def k2c4 : Code := { maxStack := 4, maxLocals := 4, code := prog_32_method_7_code, exceptionTable := #[], attributes := #[] }
def k2m4 : Method := { name := "remove", desc := "(J)Z", sig := { parameters := [.long], returnType := some .boolean }, accessFlags := 0, code := some k2c4 }
def k2c5 : Code := { maxStack := 5, maxLocals := 3, code := prog_32_method_8_code, exceptionTable := #[], attributes := #[] }
def k2m5 : Method := { name := "part", desc := "(J)Lcom/example/clockwrap/clockwrap/store/LongTable$Part;", sig := { parameters := [.long], returnType := some (.object "com/example/clockwrap/clockwrap/store/LongTable$Part") }, accessFlags := 2, code := some k2c5 }
/-- com/example/clockwrap/clockwrap/store/LongTable -/
def k2 : Class := { plain "com/example/clockwrap/clockwrap/store/LongTable" (some 0) with
  accessFlags := 48
  interfaces := #[]
  cf := some (fileOf pool2 1 #[.nestMembers #[9]] #[{ accessFlags := 0, nameIndex := 7, descriptorIndex := 8, attributes := #[] }, { accessFlags := 0, nameIndex := 34, descriptorIndex := 31, attributes := #[] }, { accessFlags := 0, nameIndex := 41, descriptorIndex := 64, attributes := #[] }, { accessFlags := 0, nameIndex := 45, descriptorIndex := 46, attributes := #[] }, { accessFlags := 0, nameIndex := 49, descriptorIndex := 31, attributes := #[] }, { accessFlags := 2, nameIndex := 26, descriptorIndex := 27, attributes := #[] }] 48 4 #[] #[{ accessFlags := 26, nameIndex := 54, descriptorIndex := 38, attributes := #[] }, { accessFlags := 26, nameIndex := 56, descriptorIndex := 19, attributes := #[] }, { accessFlags := 26, nameIndex := 58, descriptorIndex := 19, attributes := #[] }, { accessFlags := 18, nameIndex := 13, descriptorIndex := 14, attributes := #[] }, { accessFlags := 2, nameIndex := 18, descriptorIndex := 19, attributes := #[] }, { accessFlags := 2, nameIndex := 22, descriptorIndex := 23, attributes := #[] }, { accessFlags := 2, nameIndex := 37, descriptorIndex := 38, attributes := #[] }])
  fields := #[{ name := "SPREAD", type := .long, accessFlags := 26, slot := 0, constantValue := 0 }, { name := "PART_BITS", type := .int, accessFlags := 26, slot := 1, constantValue := 0 }, { name := "PARTS", type := .int, accessFlags := 26, slot := 2, constantValue := 0 }, { name := "parts", type := (.array (.object "com/example/clockwrap/clockwrap/store/LongTable$Part")), accessFlags := 18, slot := 0, constantValue := 0 }, { name := "size", type := .int, accessFlags := 2, slot := 1, constantValue := 0 }, { name := "hasZero", type := .boolean, accessFlags := 2, slot := 2, constantValue := 0 }, { name := "zeroValue", type := .long, accessFlags := 2, slot := 3, constantValue := 0 }]
  methods := #[k2m0, k2m1, k2m2, k2m3, k2m4, k2m5]
  instanceTypes := #[(.array (.object "com/example/clockwrap/clockwrap/store/LongTable$Part")), .int, .boolean, .long]
  staticTypes := #[.long, .int, .int]
  resolved := Array.replicate 9 none ++ #[some (.cls 3)] ++ Array.replicate 5 none ++ #[some (.method { cls := 3, idx := 0 })] ++ Array.replicate 54 none
  statics := none }

def pool3 : Array CpInfo := pool [(1, .class_ 2), (0, u "com/example/clockwrap/clockwrap/store/LongTable"), (0, .methodref 4 5), (0, .class_ 6), (0, .nameAndType 7 8), (0, u "java/lang/Object"), (0, u "<init>"), (0, u "()V"), (0, .class_ 10), (0, u "com/example/clockwrap/clockwrap/store/LongTable$Part"), (0, .fieldref 9 12), (0, .nameAndType 13 14), (0, u "keys"), (0, u "[J"), (2, .methodref 18 19), (0, .class_ 20), (0, .nameAndType 21 22), (0, u "java/lang/Integer"), (0, u "numberOfTrailingZeros"), (0, u "(I)I"), (0, .fieldref 9 24), (0, .nameAndType 25 26), (0, u "shift"), (0, u "I"), (0, .methodref 9 28), (0, .nameAndType 29 30), (0, u "slot"), (0, u "(J)I"), (0, .methodref 9 32), (0, .nameAndType 33 34), (0, u "place"), (0, u "(IJJ)V"), (0, .fieldref 9 36), (0, .nameAndType 37 14), (0, u "values"), (0, .methodref 9 39), (0, .nameAndType 40 41), (0, u "free"), (0, u "(I)V"), (0, .fieldref 9 43), (0, .nameAndType 44 26), (0, u "taken"), (3, .methodref 9 49), (0, .nameAndType 50 30), (0, u "home"), (0, .long 11400714819323198485), (1, u "FIRST_SLOTS"), (5, u "(J)Z"), (1, u "add"), (0, u "put"), (0, u "(JJ)Z"), (0, u "get"), (0, u "(J)J"), (0, u "remove")] 6

def k3c0 : Code := { maxStack := 3, maxLocals := 1, code := prog_33_method_1_code, exceptionTable := #[], attributes := #[] }
def k3m0 : Method := { name := "<init>", desc := "()V", sig := { parameters := [], returnType := none }, accessFlags := 2, code := some k3c0 }
def k3c1 : Code := { maxStack := 6, maxLocals := 5, code := prog_33_method_3_code, exceptionTable := #[], attributes := #[] }
def k3m1 : Method := { name := "add", desc := "(J)Z", sig := { parameters := [.long], returnType := some .boolean }, accessFlags := 0, code := some k3c1 }
def k3c2 : Code := { maxStack := 6, maxLocals := 7, code := prog_33_method_4_code, exceptionTable := #[], attributes := #[] }
def k3m2 : Method := { name := "put", desc := "(JJ)Z", sig := { parameters := [.long, .long], returnType := some .boolean }, accessFlags := 0, code := some k3c2 }
def k3c3 : Code := { maxStack := 4, maxLocals := 3, code := prog_33_method_5_code, exceptionTable := #[], attributes := #[] }
def k3m3 : Method := { name := "get", desc := "(J)J", sig := { parameters := [.long], returnType := some .long }, accessFlags := 0, code := some k3c3 }
def k3c4 : Code := { maxStack := 4, maxLocals := 5, code := prog_33_method_6_code, exceptionTable := #[], attributes := #[] }
def k3m4 : Method := { name := "remove", desc := "(J)Z", sig := { parameters := [.long], returnType := some .boolean }, accessFlags := 0, code := some k3c4 }
def k3c5 : Code := { maxStack := 4, maxLocals := 6, code := prog_33_method_7_code, exceptionTable := #[], attributes := #[] }
def k3m5 : Method := { name := "place", desc := "(IJJ)V", sig := { parameters := [.int, .long, .long], returnType := none }, accessFlags := 2, code := some k3c5 }
def k3c6 : Code := { maxStack := 4, maxLocals := 5, code := prog_33_method_8_code, exceptionTable := #[], attributes := #[] }
def k3m6 : Method := { name := "slot", desc := "(J)I", sig := { parameters := [.long], returnType := some .int }, accessFlags := 2, code := some k3c6 }
def k3c7 : Code := { maxStack := 4, maxLocals := 3, code := prog_33_method_9_code, exceptionTable := #[], attributes := #[] }
def k3m7 : Method := { name := "home", desc := "(J)I", sig := { parameters := [.long], returnType := some .int }, accessFlags := 2, code := some k3c7 }
def k3c8 : Code := { maxStack := 4, maxLocals := 5, code := prog_33_method_10_code, exceptionTable := #[], attributes := #[] }
def k3m8 : Method := { name := "free", desc := "(I)V", sig := { parameters := [.int], returnType := none }, accessFlags := 2, code := some k3c8 }
/-- com/example/clockwrap/clockwrap/store/LongTable$Part -/
def k3 : Class := { plain "com/example/clockwrap/clockwrap/store/LongTable$Part" (some 0) with
  accessFlags := 48
  interfaces := #[]
  cf := some (fileOf pool3 9 #[.nestHost 1] #[{ accessFlags := 2, nameIndex := 7, descriptorIndex := 8, attributes := #[] }, { accessFlags := 0, nameIndex := 61, descriptorIndex := 59, attributes := #[] }, { accessFlags := 0, nameIndex := 62, descriptorIndex := 63, attributes := #[] }, { accessFlags := 0, nameIndex := 64, descriptorIndex := 65, attributes := #[] }, { accessFlags := 0, nameIndex := 66, descriptorIndex := 59, attributes := #[] }, { accessFlags := 2, nameIndex := 33, descriptorIndex := 34, attributes := #[] }, { accessFlags := 2, nameIndex := 29, descriptorIndex := 30, attributes := #[] }, { accessFlags := 2, nameIndex := 50, descriptorIndex := 30, attributes := #[] }, { accessFlags := 2, nameIndex := 40, descriptorIndex := 41, attributes := #[] }] 48 4 #[] #[{ accessFlags := 26, nameIndex := 53, descriptorIndex := 26, attributes := #[] }, { accessFlags := 2, nameIndex := 13, descriptorIndex := 14, attributes := #[] }, { accessFlags := 2, nameIndex := 37, descriptorIndex := 14, attributes := #[] }, { accessFlags := 2, nameIndex := 25, descriptorIndex := 26, attributes := #[] }, { accessFlags := 2, nameIndex := 44, descriptorIndex := 26, attributes := #[] }])
  fields := #[{ name := "FIRST_SLOTS", type := .int, accessFlags := 26, slot := 0, constantValue := 0 }, { name := "keys", type := (.array .long), accessFlags := 2, slot := 0, constantValue := 0 }, { name := "values", type := (.array .long), accessFlags := 2, slot := 1, constantValue := 0 }, { name := "shift", type := .int, accessFlags := 2, slot := 2, constantValue := 0 }, { name := "taken", type := .int, accessFlags := 2, slot := 3, constantValue := 0 }]
  methods := #[k3m0, k3m1, k3m2, k3m3, k3m4, k3m5, k3m6, k3m7, k3m8]
  instanceTypes := #[(.array .long), (.array .long), .int, .int]
  staticTypes := #[.int]
  resolved := Array.replicate 73 none
  statics := none }

def pool4 : Array CpInfo := pool [(1, .class_ 2), (0, u "java/io/Serializable"), (0, .class_ 4), (0, u "java/lang/Object")] 2

/-- java/io/Serializable -/
def k4 : Class := { plain "java/io/Serializable" (some 0) with
  accessFlags := 1537
  interfaces := #[]
  cf := some (fileOf pool4 1 #[] #[] 1537 3 #[] #[])
  fields := #[]
  methods := #[]
  instanceTypes := #[]
  staticTypes := #[]
  resolved := Array.replicate 7 none
  statics := none }

def pool5 : Array CpInfo := pool [(2, .class_ 4), (1, u "java/lang/Object"), (0, u "<init>"), (0, u "()V"), (1, .class_ 10), (1, u "java/lang/Number"), (2, .class_ 14), (0, u "java/io/Serializable"), (0, u "serialVersionUID"), (0, u "J")] 20

def k5m0 : Method := { name := "<init>", desc := "()V", sig := { parameters := [], returnType := none }, accessFlags := 1, code := none }
/-- java/lang/Number -/
def k5 : Class := { plain "java/lang/Number" (some 0) with
  accessFlags := 1057
  interfaces := #[4]
  cf := some (fileOf pool5 8 #[] #[{ accessFlags := 1, nameIndex := 5, descriptorIndex := 6, attributes := #[] }] 1057 2 #[13] #[{ accessFlags := 26, nameIndex := 15, descriptorIndex := 16, attributes := #[] }])
  fields := #[{ name := "serialVersionUID", type := .long, accessFlags := 26, slot := 0, constantValue := 0 }]
  methods := #[k5m0]
  instanceTypes := #[]
  staticTypes := #[.long]
  resolved := Array.replicate 37 none
  statics := none }

def pool6 : Array CpInfo := pool [(1, .class_ 2), (0, u "java/lang/Comparable"), (0, .class_ 4), (0, u "java/lang/Object")] 7

/-- java/lang/Comparable -/
def k6 : Class := { plain "java/lang/Comparable" (some 0) with
  accessFlags := 1537
  interfaces := #[]
  cf := some (fileOf pool6 1 #[] #[] 1537 3 #[] #[])
  fields := #[]
  methods := #[]
  instanceTypes := #[]
  staticTypes := #[]
  resolved := Array.replicate 12 none
  statics := none }

def pool7 : Array CpInfo := pool [(1, .class_ 2), (0, u "java/lang/constant/Constable"), (0, .class_ 4), (0, u "java/lang/Object")] 6

/-- java/lang/constant/Constable -/
def k7 : Class := { plain "java/lang/constant/Constable" (some 0) with
  accessFlags := 1537
  interfaces := #[]
  cf := some (fileOf pool7 1 #[] #[] 1537 3 #[] #[])
  fields := #[]
  methods := #[]
  instanceTypes := #[]
  staticTypes := #[]
  resolved := Array.replicate 11 none
  statics := none }

def pool8 : Array CpInfo := pool [(1, .class_ 2), (0, u "java/lang/constant/ConstantDesc"), (0, .class_ 4), (0, u "java/lang/Object")] 32

/-- java/lang/constant/ConstantDesc -/
def k8 : Class := { plain "java/lang/constant/ConstantDesc" (some 0) with
  accessFlags := 1537
  interfaces := #[]
  cf := some (fileOf pool8 1 #[] #[] 1537 3 #[] #[])
  fields := #[]
  methods := #[]
  instanceTypes := #[]
  staticTypes := #[]
  resolved := Array.replicate 37 none
  statics := none }

def pool9 : Array CpInfo := pool [(1, .class_ 2), (0, u "java/lang/Integer"), (16, u "digits"), (0, u "[C"), (33, u "(I)I"), (30, u "DigitOnes"), (0, u "[B"), (2, u "DigitTens"), (99, .class_ 190), (0, u "java/lang/Integer$IntegerCache"), (3, u "I"), (8, .class_ 204), (0, u "java/lang/Number"), (2, u "value"), (56, .integer 65536), (37, u "TYPE"), (0, u "Ljava/lang/Class;"), (0, .class_ 305), (0, u "java/lang/Comparable"), (0, .class_ 307), (0, u "java/lang/constant/Constable"), (0, .class_ 309), (0, u "java/lang/constant/ConstantDesc"), (0, u "MIN_VALUE"), (1, u "MAX_VALUE"), (3, u "SIZE"), (1, u "BYTES"), (1, u "serialVersionUID"), (0, u "J"), (84, u "numberOfTrailingZeros")] 46

def k9c0 : Code := { maxStack := 3, maxLocals := 2, code := jdk_33_method_48_code, exceptionTable := #[], attributes := #[] }
def k9m0 : Method := { name := "numberOfTrailingZeros", desc := "(I)I", sig := { parameters := [.int], returnType := some .int }, accessFlags := 9, code := some k9c0 }
/-- java/lang/Integer -/
def k9 : Class := { plain "java/lang/Integer" (some 5) with
  accessFlags := 49
  interfaces := #[6, 7, 8]
  cf := some (fileOf pool9 1 #[.nestMembers #[189]] #[{ accessFlags := 9, nameIndex := 406, descriptorIndex := 54, attributes := #[] }] 49 203 #[304, 306, 308] #[{ accessFlags := 25, nameIndex := 310, descriptorIndex := 194, attributes := #[] }, { accessFlags := 25, nameIndex := 312, descriptorIndex := 194, attributes := #[] }, { accessFlags := 25, nameIndex := 302, descriptorIndex := 303, attributes := #[] }, { accessFlags := 24, nameIndex := 19, descriptorIndex := 20, attributes := #[] }, { accessFlags := 24, nameIndex := 89, descriptorIndex := 86, attributes := #[] }, { accessFlags := 24, nameIndex := 85, descriptorIndex := 86, attributes := #[] }, { accessFlags := 18, nameIndex := 207, descriptorIndex := 194, attributes := #[] }, { accessFlags := 25, nameIndex := 316, descriptorIndex := 194, attributes := #[] }, { accessFlags := 25, nameIndex := 318, descriptorIndex := 194, attributes := #[] }, { accessFlags := 26, nameIndex := 320, descriptorIndex := 321, attributes := #[] }])
  fields := #[{ name := "MIN_VALUE", type := .int, accessFlags := 25, slot := 0, constantValue := 0 }, { name := "MAX_VALUE", type := .int, accessFlags := 25, slot := 1, constantValue := 0 }, { name := "TYPE", type := (.object "java/lang/Class"), accessFlags := 25, slot := 2, constantValue := 0 }, { name := "digits", type := (.array .char), accessFlags := 24, slot := 3, constantValue := 0 }, { name := "DigitTens", type := (.array .byte), accessFlags := 24, slot := 4, constantValue := 0 }, { name := "DigitOnes", type := (.array .byte), accessFlags := 24, slot := 5, constantValue := 0 }, { name := "value", type := .int, accessFlags := 18, slot := 0, constantValue := 0 }, { name := "SIZE", type := .int, accessFlags := 25, slot := 6, constantValue := 0 }, { name := "BYTES", type := .int, accessFlags := 25, slot := 7, constantValue := 0 }, { name := "serialVersionUID", type := .long, accessFlags := 26, slot := 8, constantValue := 0 }]
  methods := #[k9m0]
  instanceTypes := #[.int]
  staticTypes := #[.int, .int, (.object "java/lang/Class"), (.array .char), (.array .byte), (.array .byte), .int, .int, .long]
  resolved := Array.replicate 453 none
  statics := none }

def pool10 : Array CpInfo := pool [(1, u "java/lang/Cloneable"), (0, .class_ 1), (0, u "java/lang/Object"), (0, .class_ 3)] 3

/-- java/lang/Cloneable -/
def k10 : Class := { plain "java/lang/Cloneable" (some 0) with
  accessFlags := 1537
  interfaces := #[]
  cf := some (fileOf pool10 2 #[] #[] 1537 4 #[] #[])
  fields := #[]
  methods := #[]
  instanceTypes := #[]
  staticTypes := #[]
  resolved := Array.replicate 8 none
  statics := none }

/-- the primitive byte -/
def k11 : Class := { plain "byte" none with kind := .primitive 'B', accessFlags := 0x411 }
/-- [B -/
def k12 : Class := { plain "[B" (some 0) with kind := .array 11 .byte, interfaces := #[10, 4], accessFlags := 1041 }

/-- the primitive int -/
def k13 : Class := { plain "int" none with kind := .primitive 'I', accessFlags := 0x411 }
/-- [I -/
def k14 : Class := { plain "[I" (some 0) with kind := .array 13 .int, interfaces := #[10, 4], accessFlags := 1041 }

/-- the primitive long -/
def k15 : Class := { plain "long" none with kind := .primitive 'J', accessFlags := 0x411 }
/-- [J -/
def k16 : Class := { plain "[J" (some 0) with kind := .array 15 .long, interfaces := #[10, 4], accessFlags := 1041 }

/-- [Lcom/example/clockwrap/clockwrap/store/LongTable$Part; -/
def k17 : Class := { plain "[Lcom/example/clockwrap/clockwrap/store/LongTable$Part;" (some 0) with kind := .array 3 (.object "com/example/clockwrap/clockwrap/store/LongTable$Part"), interfaces := #[10, 4], accessFlags := 1041 }

def heap : Heap := #[]
def classes : Array Class := #[k0, k1, k2, k3, k4, k5, k6, k7, k8, k9, k10, k11, k12, k13, k14, k15, k16, k17]
def interned : List (Array UInt16 × Addr) := []
def slotsUsed : Nat := 0
def theMethod : MethodId := ⟨1, 1⟩
def args0 : Array Value := #[.long 1, .long 2, .long 3, .long 4, .long 5, .int 6]
def aboutOver (below : List Frame) : State where
  vm := { classes := classes, interned := interned.toArray }
  heap := heap
  slotsUsed := slotsUsed
  threads := #[{ frames := .invoking theMethod args0 :: below }]
def below0 : List Frame := [.native { method := ⟨0, 0⟩, args := #[] }]
def about1 : State := aboutOver below0
def p0 : Program := .bare "" "" ""
def e0 : Env := launch0.env 0 0 0
theorem w_frames : about1.frames = Frame.invoking theMethod args0 :: below0 := rfl
set_option maxRecDepth 65536 in
theorem w_args : argsFit about1.vm theMethod args0 = true := by decide +kernel
set_option maxRecDepth 65536 in
theorem w_heap : heapFits about1 = true := by decide +kernel
set_option maxRecDepth 65536 in
theorem w_runnable : about1.curStatus? = some .runnable := by decide +kernel
set_option maxRecDepth 65536 in
theorem w_alone : about1.alone = true := by decide +kernel
set_option maxRecDepth 65536 in
theorem w_named : about1.methodNamed? x = some theMethod := by decide +kernel
set_option maxRecDepth 65536 in
theorem w_hears : about1.hears theMethod below0 = true := by decide +kernel
set_option maxRecDepth 65536 in
theorem w_ripe : about1.ripe theMethod args0 below0 = true := by decide +kernel
theorem w_running : about1.status = .running := rfl
set_option maxRecDepth 65536 in
theorem w_room : about1.hasRoom e0.platform room_1 = true :=
  launch0.hasRoom_least _ room_1 (by decide +kernel) (by decide +kernel) (by decide +kernel) (by decide +kernel) (by decide +kernel) (by decide +kernel)
theorem allAtoms_all (ts : List Jvm.Cond) (a : Array Jvm.Value) (st : Jvm.State) : (allAtoms ts).before a st = ts.all (fun c => c.before a st) := by
  induction ts with
  | nil => rfl
  | cons c t ih =>
    show (Jvm.Cond.and c (allAtoms t)).before a st = _
    rw [Jvm.Cond.before_and, ih, List.all_cons]
def words1 : List Jvm.Cond := Jvm.Cond.code x code maxLocals ret :: tables_1
/-- a 'code' word, met by the world's own term for the bytes: nothing is compared byte by byte -/
theorem code_word {y : MethodName} {bytes : ByteArray} {mx : Nat} {rt : Option FieldType} {a : Array Value} {s : State} {m : MethodId} {meth : Method} {c : Code} (h1 : s.methodNamed? y = some m) (h2 : s.vm.method? m = some meth) (h3 : meth.code = some c) (h4 : c.code = bytes)
    (h5 : (c.maxLocals == mx && c.exceptionTable.isEmpty && decide (c.maxStack ≤ mostOperands) && decide (meth.sig.returnType = rt) && !meth.locks && decide (parseMethodDescriptor y.desc = some meth.sig)) = true) : (Jvm.Cond.code y bytes mx rt).before a s = true := by
  simp only [Bool.and_eq_true, beq_iff_eq, Bool.not_eq_true', decide_eq_true_eq] at h5
  obtain ⟨⟨⟨⟨⟨g1, g2⟩, g3⟩, g4⟩, g5⟩, g6⟩ := h5
  simp [Cond.before, Cond.holds, Cond.value, h1, h2, h3, h4, g1, g2, g3, g4, g5, g6]
def isCode : Jvm.Cond → Bool
  | .code _ _ _ _ => true
  | _ => false
theorem all_split {L : List Jvm.Cond} {P : Jvm.Cond → Bool} (h1 : L.all (fun c => isCode c || P c) = true) (h2 : ∀ c ∈ L.filter isCode, P c = true) : L.all P = true := by
  refine List.all_eq_true.mpr fun c hc => ?_
  have h := List.all_eq_true.mp h1 c hc
  rcases Bool.eq_false_or_eq_true (isCode c) with hi | hi
  · exact h2 c (List.mem_filter.mpr ⟨hc, hi⟩)
  · simpa [hi] using h
set_option maxRecDepth 65536 in
theorem w_c0 : (Jvm.Cond.code x code maxLocals ret).before args0 about1 = true := code_word (m := ⟨1, 1⟩) (meth := k1m1) (c := k1c1) (by decide +kernel) rfl rfl rfl (by decide +kernel)
set_option maxRecDepth 65536 in
theorem w_c1 : (Jvm.Cond.code ({ cls := "com/example/clockwrap/clockwrap/store/LongTable", name := "<init>", desc := "()V" } : Jvm.MethodName) prog_32_method_1_code (2 : Nat) (Option.none : Option Jvm.ClassFile.FieldType)).before args0 about1 = true := code_word (m := ⟨2, 0⟩) (meth := k2m0) (c := k2c0) (by decide +kernel) rfl rfl rfl (by decide +kernel)
set_option maxRecDepth 65536 in
theorem w_c2 : (Jvm.Cond.code ({ cls := "java/lang/Object", name := "<init>", desc := "()V" } : Jvm.MethodName) object_method_1_code (1 : Nat) (Option.none : Option Jvm.ClassFile.FieldType)).before args0 about1 = true := code_word (m := ⟨0, 0⟩) (meth := k0m0) (c := k0c0) (by decide +kernel) rfl rfl rfl (by decide +kernel)
set_option maxRecDepth 65536 in
theorem w_c3 : (Jvm.Cond.code ({ cls := "com/example/clockwrap/clockwrap/store/LongTable$Part", name := "<init>", desc := "()V" } : Jvm.MethodName) prog_33_method_1_code (1 : Nat) (Option.none : Option Jvm.ClassFile.FieldType)).before args0 about1 = true := code_word (m := ⟨3, 0⟩) (meth := k3m0) (c := k3c0) (by decide +kernel) rfl rfl rfl (by decide +kernel)
set_option maxRecDepth 65536 in
theorem w_c4 : (Jvm.Cond.code ({ cls := "java/lang/Integer", name := "numberOfTrailingZeros", desc := "(I)I" } : Jvm.MethodName) jdk_33_method_48_code (2 : Nat) (Option.some Jvm.ClassFile.FieldType.int)).before args0 about1 = true := code_word (m := ⟨9, 0⟩) (meth := k9m0) (c := k9c0) (by decide +kernel) rfl rfl rfl (by decide +kernel)
set_option maxRecDepth 65536 in
theorem w_c5 : (Jvm.Cond.code ({ cls := "com/example/clockwrap/clockwrap/store/LongTableGetPinLaw", name := "key", desc := "(JI)J" } : Jvm.MethodName) method_3_code (3 : Nat) (Option.some Jvm.ClassFile.FieldType.long)).before args0 about1 = true := code_word (m := ⟨1, 2⟩) (meth := k1m2) (c := k1c2) (by decide +kernel) rfl rfl rfl (by decide +kernel)
set_option maxRecDepth 65536 in
theorem w_c6 : (Jvm.Cond.code ({ cls := "com/example/clockwrap/clockwrap/store/LongTableGetPinLaw", name := "run", desc := "(Lcom/example/clockwrap/clockwrap/store/LongTable;[JJIJJ)V" } : Jvm.MethodName) method_4_code (12 : Nat) (Option.none : Option Jvm.ClassFile.FieldType)).before args0 about1 = true := code_word (m := ⟨1, 3⟩) (meth := k1m3) (c := k1c3) (by decide +kernel) rfl rfl rfl (by decide +kernel)
set_option maxRecDepth 65536 in
theorem w_c7 : (Jvm.Cond.code ({ cls := "com/example/clockwrap/clockwrap/store/LongTable", name := "remove", desc := "(J)Z" } : Jvm.MethodName) prog_32_method_7_code (4 : Nat) (Option.some Jvm.ClassFile.FieldType.boolean)).before args0 about1 = true := code_word (m := ⟨2, 4⟩) (meth := k2m4) (c := k2c4) (by decide +kernel) rfl rfl rfl (by decide +kernel)
set_option maxRecDepth 65536 in
theorem w_c8 : (Jvm.Cond.code ({ cls := "com/example/clockwrap/clockwrap/store/LongTable", name := "part", desc := "(J)Lcom/example/clockwrap/clockwrap/store/LongTable$Part;" } : Jvm.MethodName) prog_32_method_8_code (3 : Nat) (Option.some (Jvm.ClassFile.FieldType.object "com/example/clockwrap/clockwrap/store/LongTable$Part"))).before args0 about1 = true := code_word (m := ⟨2, 5⟩) (meth := k2m5) (c := k2c5) (by decide +kernel) rfl rfl rfl (by decide +kernel)
set_option maxRecDepth 65536 in
theorem w_c9 : (Jvm.Cond.code ({ cls := "com/example/clockwrap/clockwrap/store/LongTable$Part", name := "remove", desc := "(J)Z" } : Jvm.MethodName) prog_33_method_6_code (5 : Nat) (Option.some Jvm.ClassFile.FieldType.boolean)).before args0 about1 = true := code_word (m := ⟨3, 4⟩) (meth := k3m4) (c := k3c4) (by decide +kernel) rfl rfl rfl (by decide +kernel)
set_option maxRecDepth 65536 in
theorem w_c10 : (Jvm.Cond.code ({ cls := "com/example/clockwrap/clockwrap/store/LongTable$Part", name := "slot", desc := "(J)I" } : Jvm.MethodName) prog_33_method_8_code (5 : Nat) (Option.some Jvm.ClassFile.FieldType.int)).before args0 about1 = true := code_word (m := ⟨3, 6⟩) (meth := k3m6) (c := k3c6) (by decide +kernel) rfl rfl rfl (by decide +kernel)
set_option maxRecDepth 65536 in
theorem w_c11 : (Jvm.Cond.code ({ cls := "com/example/clockwrap/clockwrap/store/LongTable$Part", name := "home", desc := "(J)I" } : Jvm.MethodName) prog_33_method_9_code (3 : Nat) (Option.some Jvm.ClassFile.FieldType.int)).before args0 about1 = true := code_word (m := ⟨3, 7⟩) (meth := k3m7) (c := k3c7) (by decide +kernel) rfl rfl rfl (by decide +kernel)
set_option maxRecDepth 65536 in
theorem w_c12 : (Jvm.Cond.code ({ cls := "com/example/clockwrap/clockwrap/store/LongTable", name := "add", desc := "(J)Z" } : Jvm.MethodName) prog_32_method_4_code (4 : Nat) (Option.some Jvm.ClassFile.FieldType.boolean)).before args0 about1 = true := code_word (m := ⟨2, 1⟩) (meth := k2m1) (c := k2c1) (by decide +kernel) rfl rfl rfl (by decide +kernel)
set_option maxRecDepth 65536 in
theorem w_c13 : (Jvm.Cond.code ({ cls := "com/example/clockwrap/clockwrap/store/LongTable$Part", name := "add", desc := "(J)Z" } : Jvm.MethodName) prog_33_method_3_code (5 : Nat) (Option.some Jvm.ClassFile.FieldType.boolean)).before args0 about1 = true := code_word (m := ⟨3, 1⟩) (meth := k3m1) (c := k3c1) (by decide +kernel) rfl rfl rfl (by decide +kernel)
set_option maxRecDepth 65536 in
theorem w_c14 : (Jvm.Cond.code ({ cls := "com/example/clockwrap/clockwrap/store/LongTable$Part", name := "place", desc := "(IJJ)V" } : Jvm.MethodName) prog_33_method_7_code (6 : Nat) (Option.none : Option Jvm.ClassFile.FieldType)).before args0 about1 = true := code_word (m := ⟨3, 5⟩) (meth := k3m5) (c := k3c5) (by decide +kernel) rfl rfl rfl (by decide +kernel)
set_option maxRecDepth 65536 in
theorem w_c15 : (Jvm.Cond.code ({ cls := "com/example/clockwrap/clockwrap/store/LongTable", name := "get", desc := "(J)J" } : Jvm.MethodName) prog_32_method_6_code (3 : Nat) (Option.some Jvm.ClassFile.FieldType.long)).before args0 about1 = true := code_word (m := ⟨2, 3⟩) (meth := k2m3) (c := k2c3) (by decide +kernel) rfl rfl rfl (by decide +kernel)
set_option maxRecDepth 65536 in
theorem w_c16 : (Jvm.Cond.code ({ cls := "com/example/clockwrap/clockwrap/store/LongTable$Part", name := "get", desc := "(J)J" } : Jvm.MethodName) prog_33_method_5_code (3 : Nat) (Option.some Jvm.ClassFile.FieldType.long)).before args0 about1 = true := code_word (m := ⟨3, 3⟩) (meth := k3m3) (c := k3c3) (by decide +kernel) rfl rfl rfl (by decide +kernel)
set_option maxRecDepth 65536 in
theorem w_c17 : (Jvm.Cond.code ({ cls := "com/example/clockwrap/clockwrap/store/LongTable", name := "put", desc := "(JJ)V" } : Jvm.MethodName) prog_32_method_5_code (6 : Nat) (Option.none : Option Jvm.ClassFile.FieldType)).before args0 about1 = true := code_word (m := ⟨2, 2⟩) (meth := k2m2) (c := k2c2) (by decide +kernel) rfl rfl rfl (by decide +kernel)
set_option maxRecDepth 65536 in
theorem w_c18 : (Jvm.Cond.code ({ cls := "com/example/clockwrap/clockwrap/store/LongTable$Part", name := "put", desc := "(JJ)Z" } : Jvm.MethodName) prog_33_method_4_code (7 : Nat) (Option.some Jvm.ClassFile.FieldType.boolean)).before args0 about1 = true := code_word (m := ⟨3, 2⟩) (meth := k3m2) (c := k3c2) (by decide +kernel) rfl rfl rfl (by decide +kernel)
set_option maxRecDepth 65536 in
theorem w_c19 : (Jvm.Cond.code ({ cls := "com/example/clockwrap/clockwrap/store/LongTable$Part", name := "free", desc := "(I)V" } : Jvm.MethodName) prog_33_method_10_code (5 : Nat) (Option.none : Option Jvm.ClassFile.FieldType)).before args0 about1 = true := code_word (m := ⟨3, 8⟩) (meth := k3m8) (c := k3c8) (by decide +kernel) rfl rfl rfl (by decide +kernel)
def codes1 : List Jvm.Cond := [Jvm.Cond.code x code maxLocals ret, Jvm.Cond.code ({ cls := "com/example/clockwrap/clockwrap/store/LongTable", name := "<init>", desc := "()V" } : Jvm.MethodName) prog_32_method_1_code (2 : Nat) (Option.none : Option Jvm.ClassFile.FieldType), Jvm.Cond.code ({ cls := "java/lang/Object", name := "<init>", desc := "()V" } : Jvm.MethodName) object_method_1_code (1 : Nat) (Option.none : Option Jvm.ClassFile.FieldType), Jvm.Cond.code ({ cls := "com/example/clockwrap/clockwrap/store/LongTable$Part", name := "<init>", desc := "()V" } : Jvm.MethodName) prog_33_method_1_code (1 : Nat) (Option.none : Option Jvm.ClassFile.FieldType), Jvm.Cond.code ({ cls := "java/lang/Integer", name := "numberOfTrailingZeros", desc := "(I)I" } : Jvm.MethodName) jdk_33_method_48_code (2 : Nat) (Option.some Jvm.ClassFile.FieldType.int), Jvm.Cond.code ({ cls := "com/example/clockwrap/clockwrap/store/LongTableGetPinLaw", name := "key", desc := "(JI)J" } : Jvm.MethodName) method_3_code (3 : Nat) (Option.some Jvm.ClassFile.FieldType.long), Jvm.Cond.code ({ cls := "com/example/clockwrap/clockwrap/store/LongTableGetPinLaw", name := "run", desc := "(Lcom/example/clockwrap/clockwrap/store/LongTable;[JJIJJ)V" } : Jvm.MethodName) method_4_code (12 : Nat) (Option.none : Option Jvm.ClassFile.FieldType), Jvm.Cond.code ({ cls := "com/example/clockwrap/clockwrap/store/LongTable", name := "remove", desc := "(J)Z" } : Jvm.MethodName) prog_32_method_7_code (4 : Nat) (Option.some Jvm.ClassFile.FieldType.boolean), Jvm.Cond.code ({ cls := "com/example/clockwrap/clockwrap/store/LongTable", name := "part", desc := "(J)Lcom/example/clockwrap/clockwrap/store/LongTable$Part;" } : Jvm.MethodName) prog_32_method_8_code (3 : Nat) (Option.some (Jvm.ClassFile.FieldType.object "com/example/clockwrap/clockwrap/store/LongTable$Part")), Jvm.Cond.code ({ cls := "com/example/clockwrap/clockwrap/store/LongTable$Part", name := "remove", desc := "(J)Z" } : Jvm.MethodName) prog_33_method_6_code (5 : Nat) (Option.some Jvm.ClassFile.FieldType.boolean), Jvm.Cond.code ({ cls := "com/example/clockwrap/clockwrap/store/LongTable$Part", name := "slot", desc := "(J)I" } : Jvm.MethodName) prog_33_method_8_code (5 : Nat) (Option.some Jvm.ClassFile.FieldType.int), Jvm.Cond.code ({ cls := "com/example/clockwrap/clockwrap/store/LongTable$Part", name := "home", desc := "(J)I" } : Jvm.MethodName) prog_33_method_9_code (3 : Nat) (Option.some Jvm.ClassFile.FieldType.int), Jvm.Cond.code ({ cls := "com/example/clockwrap/clockwrap/store/LongTable", name := "add", desc := "(J)Z" } : Jvm.MethodName) prog_32_method_4_code (4 : Nat) (Option.some Jvm.ClassFile.FieldType.boolean), Jvm.Cond.code ({ cls := "com/example/clockwrap/clockwrap/store/LongTable$Part", name := "add", desc := "(J)Z" } : Jvm.MethodName) prog_33_method_3_code (5 : Nat) (Option.some Jvm.ClassFile.FieldType.boolean), Jvm.Cond.code ({ cls := "com/example/clockwrap/clockwrap/store/LongTable$Part", name := "place", desc := "(IJJ)V" } : Jvm.MethodName) prog_33_method_7_code (6 : Nat) (Option.none : Option Jvm.ClassFile.FieldType), Jvm.Cond.code ({ cls := "com/example/clockwrap/clockwrap/store/LongTable", name := "get", desc := "(J)J" } : Jvm.MethodName) prog_32_method_6_code (3 : Nat) (Option.some Jvm.ClassFile.FieldType.long), Jvm.Cond.code ({ cls := "com/example/clockwrap/clockwrap/store/LongTable$Part", name := "get", desc := "(J)J" } : Jvm.MethodName) prog_33_method_5_code (3 : Nat) (Option.some Jvm.ClassFile.FieldType.long), Jvm.Cond.code ({ cls := "com/example/clockwrap/clockwrap/store/LongTable", name := "put", desc := "(JJ)V" } : Jvm.MethodName) prog_32_method_5_code (6 : Nat) (Option.none : Option Jvm.ClassFile.FieldType), Jvm.Cond.code ({ cls := "com/example/clockwrap/clockwrap/store/LongTable$Part", name := "put", desc := "(JJ)Z" } : Jvm.MethodName) prog_33_method_4_code (7 : Nat) (Option.some Jvm.ClassFile.FieldType.boolean), Jvm.Cond.code ({ cls := "com/example/clockwrap/clockwrap/store/LongTable$Part", name := "free", desc := "(I)V" } : Jvm.MethodName) prog_33_method_10_code (5 : Nat) (Option.none : Option Jvm.ClassFile.FieldType)]
set_option maxRecDepth 65536 in
theorem codes_eq : words1.filter isCode = codes1 := rfl
theorem w_codes : ∀ c ∈ words1.filter isCode, c.before args0 about1 = true := by
  rw [codes_eq]
  intro c hc
  simp only [codes1, List.mem_cons, List.not_mem_nil, or_false] at hc
  rcases hc with rfl | rfl | rfl | rfl | rfl | rfl | rfl | rfl | rfl | rfl | rfl | rfl | rfl | rfl | rfl | rfl | rfl | rfl | rfl | rfl
  · exact w_c0
  · exact w_c1
  · exact w_c2
  · exact w_c3
  · exact w_c4
  · exact w_c5
  · exact w_c6
  · exact w_c7
  · exact w_c8
  · exact w_c9
  · exact w_c10
  · exact w_c11
  · exact w_c12
  · exact w_c13
  · exact w_c14
  · exact w_c15
  · exact w_c16
  · exact w_c17
  · exact w_c18
  · exact w_c19
set_option maxRecDepth 65536 in
theorem w_t1 : (words1.take 24).all (fun c => isCode c || c.before args0 about1) = true := by decide +kernel
set_option maxRecDepth 65536 in
theorem w_t2 : ((words1.drop 24).take 24).all (fun c => isCode c || c.before args0 about1) = true := by decide +kernel
set_option maxRecDepth 65536 in
theorem w_t3 : (((words1.drop 24).drop 24).take 24).all (fun c => isCode c || c.before args0 about1) = true := by decide +kernel
set_option maxRecDepth 65536 in
theorem w_t4 : ((((words1.drop 24).drop 24).drop 24).take 24).all (fun c => isCode c || c.before args0 about1) = true := by decide +kernel
set_option maxRecDepth 65536 in
theorem w_t5 : ((((words1.drop 24).drop 24).drop 24).drop 24).all (fun c => isCode c || c.before args0 about1) = true := by decide +kernel
theorem w_tables : (allAtoms (Jvm.Cond.code x code maxLocals ret :: tables_1)).before args0 about1 = true := by
  rw [allAtoms_all]
  show words1.all (fun c => c.before args0 about1) = true
  refine all_split ?_ w_codes
  rw [← List.take_append_drop 24 words1, List.all_append, w_t1, ← List.take_append_drop 24 (words1.drop 24), List.all_append, w_t2, ← List.take_append_drop 24 ((words1.drop 24).drop 24), List.all_append, w_t3, ← List.take_append_drop 24 (((words1.drop 24).drop 24).drop 24), List.all_append, w_t4, w_t5]
  rfl
set_option maxRecDepth 65536 in
theorem w_case : (Jvm.Cond.and given_1 narrow_1).before args0 about1 = true := by decide +kernel
theorem w_applies : (headSpec (Jvm.Cond.code x code maxLocals ret :: tables_1) room_1).applies x e0.platform about1 = true :=
  (Spec.applies_iff w_frames).mpr ⟨w_running, w_runnable, w_alone, w_named, w_hears, w_ripe, w_room, w_tables⟩
theorem atStart : AtStart classFile x code maxLocals ret World_1 tables_1 room_1 Calls_1 rest_1 Pre_1 launch0 p0 e0 about1 theMethod args0 below0 :=
  ⟨lists_1, trivial, launch0.admits_env _ _ _, launch0.least_env, fairChoices_fair.cas, fairChoices_fair.clock, w_frames, w_args, w_heap, w_applies, trivial, trivial, w_case⟩
end start1
theorem witness_1 : WitnessClaimed_1 := ⟨start1.p0, start1.e0, start1.about1, start1.theMethod, start1.args0, start1.below0, start1.atStart⟩
end Jvm.Pilot.@@N@@
