import JvmDerived
import JvmDerived.Pilot.@@N@@Statement
import JvmDerived.Pilot.@@N@@Code
set_option linter.unusedVariables false
set_option linter.unusedSimpArgs false
namespace Jvm.Pilot.@@N@@
open Jvm Jvm.ClassFile Sem Op Lib Jvm.Free Jvm.Stand Jvm.LawKit Jvm.RoadKit Bundle Jvm.Pilot.@@N@@.Jvm.D
/-! the walk in continuation style: 'Fin': from F on the run comes to an end that answers Q -/
section Own
variable {p : Program} {l : Launch} {e : Env} {R : Room} {s : State} {m : MethodId} {args : Array Value} {below : List Frame} {meth : Method} {c : Code} {T : State} {locs : List Loc} {cells slots : Nat}
def OFin (p : Program) (e : Env) (below : List Frame) (Q : Outcome → State → Prop) (F : State) : Prop := ∃ s₂ o, Steps p.tables e below F s₂ ∧ s₂.status = .running ∧ Ended s₂ below o ∧ Q o s₂
def ORet (Q : Option Value → Heap → List Loc → Prop) (s : State) (C S : Nat) (o : Outcome) (U' : State) : Prop := ∃ v L, o = .returned v ∧ Q v U'.heap L ∧ FrameEnd s o U' L C S
theorem OFin.go {Q : Outcome → State → Prop} {F F' : State} (st : ∀ t, Steps p.tables e below F' t → Steps p.tables e below F t) (h : OFin p e below Q F') : OFin p e below Q F := by
  obtain ⟨s2, o, h1, r⟩ := h; exact ⟨s2, o, st _ h1, r⟩
theorem OFin.tr {Q : Outcome → State → Prop} {F F' : State} (st : Steps p.tables e below F F') (h : OFin p e below Q F') : OFin p e below Q F := by
  obtain ⟨s2, o, h1, r⟩ := h; exact ⟨s2, o, st.trans h1, r⟩
variable {Q : Option Value → Heap → List Loc → Prop} {C S : Nat}
theorem finZ (X : Stand p l e R s m args below meth c T locs cells slots) (hx : p.tables.exec = Jvm.exec) (hlocks : meth.locks = false) {t : FieldType} (hret : meth.sig.returnType = some t) (ht : t = .boolean ∨ t = .byte ∨ t = .char ∨ t = .short) {pc : Nat} (hd : decode c.code pc = .ok (.ireturn, 1)) {z z' : Int32} (hz : nar t z = z') (hc : cells ≤ C) (hs : slots ≤ S) {Ls : Array Slot} {rest : List Value} (hQ : Q (some (.int z')) T.heap locs) : OFin p e below (ORet Q s C S) (T.setTop (mkF m pc Ls (.int z :: rest))) := by
  subst hz
  obtain ⟨fs, hr, hrun, hended, hW, hsame⟩ := X.leave (v := some (.int (nar t z))) (fun h => by rw [hret] at h; cases h)
  exact ⟨_, _, retN X hx (t := t) hret ht hd hr, hrun, hended, _, _, rfl, hQ, ⟨_, rfl⟩, hW, hsame.mono hc hs⟩
theorem finI (X : Stand p l e R s m args below meth c T locs cells slots) (hx : p.tables.exec = Jvm.exec) (hlocks : meth.locks = false) (hret : meth.sig.returnType = some .int) {pc : Nat} (hd : decode c.code pc = .ok (.ireturn, 1)) {z : Int32} (hc : cells ≤ C) (hs : slots ≤ S) {Ls : Array Slot} {rest : List Value} (hQ : Q (some (.int z)) T.heap locs) : OFin p e below (ORet Q s C S) (T.setTop (mkF m pc Ls (.int z :: rest))) := by
  obtain ⟨fs, hr, hrun, hended, hW, hsame⟩ := X.leave (v := some (.int z)) (fun h => by rw [hret] at h; cases h)
  exact ⟨_, _, retOut X hx hret rfl (Or.inl ⟨rfl, Or.inl rfl, _, rfl⟩) hd hr, hrun, hended, _, _, rfl, hQ, ⟨_, rfl⟩, hW, hsame.mono hc hs⟩
theorem finJ (X : Stand p l e R s m args below meth c T locs cells slots) (hx : p.tables.exec = Jvm.exec) (hlocks : meth.locks = false) (hret : meth.sig.returnType = some .long) {pc : Nat} (hd : decode c.code pc = .ok (.lreturn, 1)) {z : Int64} (hc : cells ≤ C) (hs : slots ≤ S) {Ls : Array Slot} {rest : List Value} (hQ : Q (some (.long z)) T.heap locs) : OFin p e below (ORet Q s C S) (T.setTop (mkF m pc Ls (.long z :: rest))) := by
  obtain ⟨fs, hr, hrun, hended, hW, hsame⟩ := X.leave (v := some (.long z)) (fun h => by rw [hret] at h; cases h)
  exact ⟨_, _, retOut X hx hret rfl (Or.inr (Or.inl ⟨rfl, rfl, _, rfl⟩)) hd hr, hrun, hended, _, _, rfl, hQ, ⟨_, rfl⟩, hW, hsame.mono hc hs⟩
theorem finD (X : Stand p l e R s m args below meth c T locs cells slots) (hx : p.tables.exec = Jvm.exec) (hlocks : meth.locks = false) (hret : meth.sig.returnType = some .double) {pc : Nat} (hd : decode c.code pc = .ok (.dreturn, 1)) {z : UInt64} (hc : cells ≤ C) (hs : slots ≤ S) {Ls : Array Slot} {rest : List Value} (hQ : Q (some (.double z)) T.heap locs) : OFin p e below (ORet Q s C S) (T.setTop (mkF m pc Ls (.double z :: rest))) := by
  obtain ⟨fs, hr, hrun, hended, hW, hsame⟩ := X.leave (v := some (.double z)) (fun h => by rw [hret] at h; cases h)
  exact ⟨_, _, retOut X hx hret rfl (Or.inr (Or.inr (Or.inl ⟨rfl, rfl, _, rfl⟩))) hd hr, hrun, hended, _, _, rfl, hQ, ⟨_, rfl⟩, hW, hsame.mono hc hs⟩
theorem finA (X : Stand p l e R s m args below meth c T locs cells slots) (hx : p.tables.exec = Jvm.exec) (hlocks : meth.locks = false) {w : Value} (hw : w.isRef = true) {t : FieldType} (hret : meth.sig.returnType = some t) (ht : t.isReference = true) {pc : Nat} (hd : decode c.code pc = .ok (.areturn, 1)) (hc : cells ≤ C) (hs : slots ≤ S) {Ls : Array Slot} {rest : List Value} (hQ : Q (some w) T.heap locs) : OFin p e below (ORet Q s C S) (T.setTop (mkF m pc Ls (w :: rest))) := by
  obtain ⟨fs, hr, hrun, hended, hW, hsame⟩ := X.leave (v := some w) (fun h => by rw [hret] at h; cases h)
  refine ⟨_, _, retOut X hx hret ?_ (Or.inr (Or.inr (Or.inr (Or.inr ⟨rfl, ht, hw⟩)))) hd hr, hrun, hended, _, _, rfl, hQ, ⟨_, rfl⟩, hW, hsame.mono hc hs⟩
  cases w <;> first | (simp [Value.isRef] at hw; done) | (cases t <;> first | rfl | (simp [FieldType.isReference] at ht; done))
theorem finV (X : Stand p l e R s m args below meth c T locs cells slots) (hx : p.tables.exec = Jvm.exec) (hlocks : meth.locks = false) (hret : meth.sig.returnType = none) {pc : Nat} (hd : decode c.code pc = .ok (.return_, 1)) (hc : cells ≤ C) (hs : slots ≤ S) {Ls : Array Slot} (hQ : Q none T.heap locs) : OFin p e below (ORet Q s C S) (T.setTop (mkF m pc Ls [])) := by
  obtain ⟨fs, hr, hrun, hended, hW, hsame⟩ := X.leave (v := none) (fun _ => rfl)
  exact ⟨_, _, X.returnOut hx hret hd hr, hrun, hended, _, _, rfl, hQ, ⟨_, rfl⟩, hW, hsame.mono hc hs⟩
end Own
/-- a boolean as the int that bears it -/
def bi (P : Prop) [Decidable P] : Int32 := if P then 1 else 0
theorem bi_t {P : Prop} [Decidable P] (h : P) : bi P = 1 := if_pos h
theorem bi_f {P : Prop} [Decidable P] (h : ¬ P) : bi P = 0 := if_neg h
theorem nar_bi (P : Prop) [Decidable P] : nar .boolean (bi P) = bi P := by unfold bi; split <;> rfl
theorem bi_iff {P Q : Prop} [Decidable P] [Decidable Q] : bi P = bi Q ↔ (P ↔ Q) := by
  unfold bi; by_cases h : P <;> by_cases k : Q <;> simp [h, k]
theorem bi0 {P : Prop} [Decidable P] : (bi P = 0) ↔ ¬ P := by unfold bi; by_cases h : P <;> simp [h]
theorem bi_ne_t {P : Prop} [Decidable P] (h : P) : ifCond.holds .ne (bi P) = true := by rw [bi_t h]; rfl
theorem bi_ne_f {P : Prop} [Decidable P] (h : ¬ P) : ifCond.holds .ne (bi P) = false := by rw [bi_f h]; rfl
theorem bi_eq_t {P : Prop} [Decidable P] (h : ¬ P) : ifCond.holds .eq (bi P) = true := by rw [bi_f h]; rfl
theorem bi_eq_f {P : Prop} [Decidable P] (h : P) : ifCond.holds .eq (bi P) = false := by rw [bi_t h]; rfl
theorem lc_lt_t {x y : Int64} (h : x < y) : ifCond.holds .lt (lcmpW x y) = true := (if0 _ _).trans (tlt ((lw_lt x y).mpr h)).1
theorem lc_lt_f {x y : Int64} (h : ¬ x < y) : ifCond.holds .lt (lcmpW x y) = false := (if0 _ _).trans (flt fun q => h ((lw_lt x y).mp q)).1
theorem lc_ge_t {x y : Int64} (h : ¬ x < y) : ifCond.holds .ge (lcmpW x y) = true := (if0 _ _).trans (flt fun q => h ((lw_lt x y).mp q)).2.1
theorem lc_ge_f {x y : Int64} (h : x < y) : ifCond.holds .ge (lcmpW x y) = false := (if0 _ _).trans (tlt ((lw_lt x y).mpr h)).2.1
theorem lc_gt_t {x y : Int64} (h : y < x) : ifCond.holds .gt (lcmpW x y) = true := (if0 _ _).trans (tlt ((lw_gt x y).mpr h)).2.2.1
theorem lc_gt_f {x y : Int64} (h : ¬ y < x) : ifCond.holds .gt (lcmpW x y) = false := (if0 _ _).trans (flt fun q => h ((lw_gt x y).mp q)).2.2.1
theorem lc_le_t {x y : Int64} (h : ¬ y < x) : ifCond.holds .le (lcmpW x y) = true := (if0 _ _).trans (flt fun q => h ((lw_gt x y).mp q)).2.2.2
theorem lc_le_f {x y : Int64} (h : y < x) : ifCond.holds .le (lcmpW x y) = false := (if0 _ _).trans (tlt ((lw_gt x y).mpr h)).2.2.2
theorem lc_eq_t {x y : Int64} (h : x = y) : ifCond.holds .eq (lcmpW x y) = true := (if0 _ _).trans (teq ((lw_eq x y).mpr h)).1
theorem lc_eq_f {x y : Int64} (h : ¬ x = y) : ifCond.holds .eq (lcmpW x y) = false := (if0 _ _).trans (feq fun q => h ((lw_eq x y).mp q)).1
theorem lc_ne_t {x y : Int64} (h : ¬ x = y) : ifCond.holds .ne (lcmpW x y) = true := (if0 _ _).trans (feq fun q => h ((lw_eq x y).mp q)).2
theorem lc_ne_f {x y : Int64} (h : x = y) : ifCond.holds .ne (lcmpW x y) = false := (if0 _ _).trans (teq ((lw_eq x y).mpr h)).2
/-! arrays by their places -/
def upd {α : Type} (f : Nat → α) (i : Nat) (v : α) : Nat → α := fun j => if j = i then v else f j
theorem upd_hit {α : Type} (f : Nat → α) (i : Nat) (v : α) : upd f i v i = v := if_pos rfl
theorem upd_miss {α : Type} {f : Nat → α} {i j : Nat} {v : α} (h : j ≠ i) : upd f i v j = f j := if_neg h
def Ara (Z : State) (h : Heap) (a : Addr) (ty : FieldType) (n : Nat) (f : Nat → Value) : Prop := ∃ c : Cell, Arr Z h a c ty ∧ c.slots.size = n ∧ n < 2 ^ 31 ∧ ∀ i, i < n → c.slots[i]? = some (f i)
section Ara
variable {Z : State} {h h' : Heap} {a b : Addr} {ty : FieldType} {n : Nat} {f f' : Nat → Value} {sl : Nat} {v : Value} {ws : List Addr}
theorem Ara.lt (F : Ara Z h a ty n f) : a < h.size := by obtain ⟨c, A, -⟩ := F; exact A.lt
theorem Ara.ext (F : Ara Z h a ty n f) (E : Ext h h') : Ara Z h' a ty n f := by obtain ⟨c, A, r⟩ := F; exact ⟨c, A.ext E, r⟩
theorem Ara.other (F : Ara Z h b ty n f) (W : Wr h h' a sl v) (q : b ≠ a) : Ara Z h' b ty n f := by obtain ⟨c, A, r⟩ := F; exact ⟨c, A.other W q, r⟩
theorem Ara.keep (F : Ara Z h a ty n f) (K : Keep h h' ws) (q : a ∉ ws) : Ara Z h' a ty n f := by obtain ⟨c, A, r⟩ := F; exact ⟨c, ⟨K.2.1 a c A.1 q, A.2⟩, r⟩
theorem Ara.set (F : Ara Z h a ty n f) (W : Wr h h' a sl v) : Ara Z h' a ty n (upd f sl v) := by
  obtain ⟨c, A, r1, r2, r3⟩ := F
  refine ⟨_, A.same W, by rw [sz_set]; exact r1, r2, fun i hi => ?_⟩
  by_cases q : i = sl
  · subst q; rw [upd_hit]; simp [Cell.setSlot, r1, hi]
  · rw [upd_miss q]; simp only [Cell.setSlot]; rw [Array.getElem?_setIfInBounds_ne (fun z => q z.symm)]; exact r3 i hi
theorem Ara.new {k : ClassId} {z : Int32} (A : Arr Z h a (newA k ty z) ty) (hn : z.toNatClampNeg = n) : Ara Z h a ty n (fun _ => defaultValue ty) := by
  refine ⟨_, A, by rw [sz_new]; exact hn, ?_, fun i hi => ?_⟩
  · rw [← hn]; have := z.toInt_lt; unfold Int32.toNatClampNeg; omega
  · rw [← hn] at hi; simp [newA, hi]
theorem Ara.congr (F : Ara Z h a ty n f) (q : ∀ i, i < n → f i = f' i) : Ara Z h a ty n f' := by obtain ⟨c, A, r1, r2, r3⟩ := F; exact ⟨c, A, r1, r2, fun i hi => by rw [← q i hi]; exact r3 i hi⟩
variable {p : Program} {l : Launch} {e : Env} {R : Room} {s : State} {m : MethodId} {args : Array Value} {below : List Frame} {meth : Method} {c : Code} {T : State} {locs : List Loc} {cells slots : Nat} {j : Int32} {i : Nat} {rest : List Value} {g : JFrame} {t : State} {x : Value}
theorem hin_of {cl : Cell} (S : cl.slots.size = n) (hj0 : ¬ j < 0) (hj : j.toNatClampNeg = i) (hi : i < n) : ¬ (j < 0 ∨ cl.slots.size ≤ j.toNatClampNeg) := by rw [S, hj]; exact fun q => q.elim hj0 (Nat.not_le.mpr hi)
theorem rdB (X : Stand p l e R s m args below meth c T locs cells slots) (hx : p.tables.exec = Jvm.exec) (hZ : Z.Warmed39 s.vm) (eT : T.heap = h) (F : Ara Z h a .byte n f) (hj0 : ¬ j < 0) (hj : j.toNatClampNeg = i) (hi : i < n) (hv : f i = x) (hg : g.method = m) (hs : g.stack = .int j :: .ref a :: rest) (hd : decode c.code g.pc = .ok (.baload, 1))
    (k : Steps p.tables e below (T.setTop { g with pc := g.pc + 1, stack := x :: rest }) t) : Steps p.tables e below (T.setTop g) t := by
  obtain ⟨cl, A, r1, r2, r3⟩ := F
  exact X.baloadBytes hx (by rw [eT]; exact A.1) (State.isArrayOf_alike hZ.alike A.2.1) A.2.2 (hin_of r1 hj0 hj hi) (by rw [hj, r3 i hi, hv]) hg hs hd _ k
theorem rdI (X : Stand p l e R s m args below meth c T locs cells slots) (hx : p.tables.exec = Jvm.exec) (hZ : Z.Warmed39 s.vm) (eT : T.heap = h) (F : Ara Z h a .int n f) (hj0 : ¬ j < 0) (hj : j.toNatClampNeg = i) (hi : i < n) (hv : f i = x) (hg : g.method = m) (hs : g.stack = .int j :: .ref a :: rest) (hd : decode c.code g.pc = .ok (.iaload, 1))
    (k : Steps p.tables e below (T.setTop { g with pc := g.pc + 1, stack := x :: rest }) t) : Steps p.tables e below (T.setTop g) t := by
  obtain ⟨cl, A, r1, r2, r3⟩ := F
  exact X.iaload hx (by rw [eT]; exact A.1) (State.isArrayOf_alike hZ.alike A.2.1) A.2.2 (hin_of r1 hj0 hj hi) (by rw [hj, r3 i hi, hv]) hg hs hd _ k
theorem rdJ (X : Stand p l e R s m args below meth c T locs cells slots) (hx : p.tables.exec = Jvm.exec) (hZ : Z.Warmed39 s.vm) (eT : T.heap = h) (F : Ara Z h a .long n f) (hj0 : ¬ j < 0) (hj : j.toNatClampNeg = i) (hi : i < n) (hv : f i = x) (hg : g.method = m) (hs : g.stack = .int j :: .ref a :: rest) (hd : decode c.code g.pc = .ok (.laload, 1))
    (k : Steps p.tables e below (T.setTop { g with pc := g.pc + 1, stack := x :: rest }) t) : Steps p.tables e below (T.setTop g) t := by
  obtain ⟨cl, A, r1, r2, r3⟩ := F
  exact X.laload hx (by rw [eT]; exact A.1) (State.isArrayOf_alike hZ.alike A.2.1) A.2.2 (hin_of r1 hj0 hj hi) (by rw [hj, r3 i hi, hv]) hg hs hd _ k
theorem rdR (X : Stand p l e R s m args below meth c T locs cells slots) (hx : p.tables.exec = Jvm.exec) (hZ : Z.Warmed39 s.vm) (eT : T.heap = h) (F : Ara Z h a ty n f) (hty : ty.isReference = true) (hj0 : ¬ j < 0) (hj : j.toNatClampNeg = i) (hi : i < n) (hv : f i = x) (hg : g.method = m) (hs : g.stack = .int j :: .ref a :: rest) (hd : decode c.code g.pc = .ok (.aaload, 1))
    (k : Steps p.tables e below (T.setTop { g with pc := g.pc + 1, stack := x :: rest }) t) : Steps p.tables e below (T.setTop g) t := by
  obtain ⟨cl, A, r1, r2, r3⟩ := F
  exact X.aaload hx (by rw [eT]; exact A.1) (State.isArrayOf_alike hZ.alike A.2.1) hty A.2.2 (hin_of r1 hj0 hj hi) (by rw [hj, r3 i hi, hv]) hg hs hd _ k
theorem alen (X : Stand p l e R s m args below meth c T locs cells slots) (hx : p.tables.exec = Jvm.exec) (hZ : Z.Warmed39 s.vm) (eT : T.heap = h) (F : Ara Z h a ty n f) {z : Int32} (hz : n.toInt32 = z) (hg : g.method = m) (hs : g.stack = .ref a :: rest) (hd : decode c.code g.pc = .ok (.arraylength, 1))
    (k : Steps p.tables e below (T.setTop { g with pc := g.pc + 1, stack := .int z :: rest }) t) : Steps p.tables e below (T.setTop g) t := by
  obtain ⟨cl, A, r1, r2, r3⟩ := F
  refine X.arraylength hx (by rw [eT]; exact A.1) (State.isArrayOf_alike hZ.alike A.2.1) hg hs hd _ ?_
  rw [r1, hz]; exact k
theorem wrB (X : Stand p l e R s m args below meth c T locs cells slots) (hx : p.tables.exec = Jvm.exec) (hZ : Z.Warmed39 s.vm) (eT : T.heap = h) (F : Ara Z h a .byte n f) {y : Int32} (hj0 : ¬ j < 0) (hj : j.toNatClampNeg = i) (hi : i < n) {y' : Int32} (hy : nar .byte y = y') (hg : g.method = m) (hs : g.stack = .int y :: .int j :: .ref a :: rest) (hd : decode c.code g.pc = .ok (.bastore, 1)) :
    ∃ T' h', Stand p l e R s m args below meth c T' (locs ++ [⟨a, i⟩]) cells slots ∧ T'.heap = h' ∧ Wr h h' a i (.int y') ∧ ∀ target, Steps p.tables e below (T'.setTop { g with pc := g.pc + 1, stack := rest }) target → Steps p.tables e below (T.setTop g) target := by
  subst hj hy
  obtain ⟨cl, A, r1, r2, r3⟩ := F
  exact stB X hx hZ eT A (hin_of r1 hj0 rfl hi) hg hs hd
theorem wrI (X : Stand p l e R s m args below meth c T locs cells slots) (hx : p.tables.exec = Jvm.exec) (hZ : Z.Warmed39 s.vm) (eT : T.heap = h) (F : Ara Z h a .int n f) {y : Int32} (hj0 : ¬ j < 0) (hj : j.toNatClampNeg = i) (hi : i < n) (hg : g.method = m) (hs : g.stack = .int y :: .int j :: .ref a :: rest) (hd : decode c.code g.pc = .ok (.iastore, 1)) :
    ∃ T' h', Stand p l e R s m args below meth c T' (locs ++ [⟨a, i⟩]) cells slots ∧ T'.heap = h' ∧ Wr h h' a i (.int y) ∧ ∀ target, Steps p.tables e below (T'.setTop { g with pc := g.pc + 1, stack := rest }) target → Steps p.tables e below (T.setTop g) target := by
  subst hj
  obtain ⟨cl, A, r1, r2, r3⟩ := F
  exact stI X hx hZ eT A (hin_of r1 hj0 rfl hi) hg hs hd
theorem wrJ (X : Stand p l e R s m args below meth c T locs cells slots) (hx : p.tables.exec = Jvm.exec) (hZ : Z.Warmed39 s.vm) (eT : T.heap = h) (F : Ara Z h a .long n f) {y : Int64} (hj0 : ¬ j < 0) (hj : j.toNatClampNeg = i) (hi : i < n) (hg : g.method = m) (hs : g.stack = .long y :: .int j :: .ref a :: rest) (hd : decode c.code g.pc = .ok (.lastore, 1)) :
    ∃ T' h', Stand p l e R s m args below meth c T' (locs ++ [⟨a, i⟩]) cells slots ∧ T'.heap = h' ∧ Wr h h' a i (.long y) ∧ ∀ target, Steps p.tables e below (T'.setTop { g with pc := g.pc + 1, stack := rest }) target → Steps p.tables e below (T.setTop g) target := by
  subst hj
  obtain ⟨cl, A, r1, r2, r3⟩ := F
  exact stJ X hx hZ eT A (hin_of r1 hj0 rfl hi) hg hs hd
end Ara
theorem wr_le {h h' : Heap} {a : Addr} {sl : Nat} {v : Value} (W : Wr h h' a sl v) : h.size ≤ h'.size := Nat.le_of_eq W.size.symm
theorem up_lt {k a b : Nat} (h : a < k) (g : b = k) : a ≠ b := by omega
theorem nar_b (y : Int32) : nar .byte y.toInt8.toInt32 = y.toInt8.toInt32 := by show y.toInt8.toInt32.toInt8.toInt32 = _; rw [Int8.toInt8_toInt32]
theorem Sta_keep {Z : State} {h h' : Heap} {C n d : String} {v : Value} {ws : List Addr} {k : Nat} (F : Sta Z h C n d v) (K : Keep h h' ws) (q : ∀ x ∈ ws, Z.heap.size ≤ x) (hst : ∀ cf kk i f st, Z.fieldFound? C n d = some (cf, kk, i, f) → kk.statics = some st → st < Z.heap.size) : Sta Z h' C n d v := by
  obtain ⟨cf, i, kk, f, st, cell, h1, h2, h3, h4, h5, r⟩ := F
  exact ⟨cf, i, kk, f, st, cell, h1, h2, h3, h4, K.2.1 _ _ h5 (fun z => absurd (hst _ _ _ _ _ h1 h4) (Nat.not_lt.mpr (q _ z))), r⟩
theorem eqv_r {Z : State} {args : Array Value} {X F : Term} {idx : List Nat} {y : Addr} (hF : F.eval args Z none idx Z = some (.ref y)) (h : (Cond.eq X F).value args Z none Z idx = some true) : X.eval args Z none idx Z = some (.ref y) := by
  cases hx : X.eval args Z none idx Z with
  | none => simp [Cond.value, hF, hx] at h
  | some x => cases x <;> simp [Cond.value, hF, hx] at h ⊢ <;> exact h
/-! calls by a contract, in one piece -/
section Calls
variable {p : Program} {l : Launch} {e : Env} {R : Room} {s : State} {m : MethodId} {args : Array Value} {below : List Frame} {meth : Method} {c : Code} {T : State} {locs : List Loc} {cells slots : Nat} {Z : State} {a0 : Array Value} {h : Heap}
abbrev Meets1 (l : Launch) (y : MethodName) (bytes : ByteArray) (maxL : Nat) (ret : Option FieldType) (rm : Room) (Z : State) (as' : Array Value) (h : Heap) (Q : Option Value → Heap → List Loc → Prop) : Prop :=
  MetFree l y (head1 [Cond.code y bytes maxL ret] rm) (fun a U => a = as' ∧ Z.Warmed39 U.vm ∧ U.heap = h) (fun _ _ _ _ _ => True) (fun _ U o U' => ∃ v L, o = .returned v ∧ Q v U'.heap L ∧ FrameEnd U o U' L rm.cells rm.slots)
theorem callQ (X : Stand p l e R s m args below meth c T locs cells slots) (hx : p.tables.exec = Jvm.exec) (hZ : Z.Warmed39 s.vm) {own : String} {index : Nat} {y : MethodName} {bytes : ByteArray} {maxL : Nat} {ret : Option FieldType} (hown : s.vm.findClass own = some m.cls)
    (w1 : (Cond.methodLink own index y).before a0 Z = true) (w2 : (Cond.static y).before a0 Z = true) (w3 : (Cond.initialized y.cls).before a0 Z = true) (w4 : (Cond.code y bytes maxL ret).before a0 Z = true) (hy : y.cls ≠ "java/lang/invoke/MethodHandle" ∧ y.cls ≠ "java/lang/invoke/VarHandle")
    {rm : Room} {argsL rest : List Value} {Q : Option Value → Heap → List Loc → Prop} (hM : Meets1 l y bytes maxL ret rm Z argsL.toArray h Q) {W : Nat} (hf : rm.frames + 1 ≤ R.frames) (hl : W + (maxL + 11) + rm.locals ≤ R.locals) (eT : T.heap = h)
    {g : JFrame} (hg : g.method = m) (hsize : g.locals.size = c.maxLocals) (hlen : ∀ sig, parseMethodDescriptor y.desc = some sig → argsL.length = sig.parameters.length) (hstack : g.stack = argsL.reverse ++ rest) (hW : 2 * g.monitorRoom + (rest.map fun v => v.category).sum ≤ W) (hd : decode c.code g.pc = .ok (.invokestatic index, 3)) (hc : cells + rm.cells ≤ R.cells) (hs : slots + rm.slots ≤ R.slots) :
    ∃ v T' L, Stand p l e R s m args below meth c T' (locs ++ L) (cells + rm.cells) (slots + rm.slots) ∧ Q v T'.heap L ∧ ∀ target, Steps p.tables e below (T'.setTop { g with pc := g.pc + 3, stack := v.toList ++ rest }) target → Steps p.tables e below (T.setTop g) target := by
  obtain ⟨v, _, ⟨T', L', k', n'⟩, -, X', ⟨L, hQ, hl', hk', hn'⟩, st⟩ := Jvm.LawKit.callS X hx hown (mvT hZ w1) (mvT hZ w2) (mvT hZ w3) (mvT hZ w4) hy (backOf (W := W) hM hZ w4 w3 hf hl) hg hsize hlen hstack hW hd (fun _ _ => ⟨rfl, eT, hc, hs⟩)
  dsimp only [Pt.U, Pt.locs, Pt.cells, Pt.slots] at X' hl' hk' hn' st hQ
  subst hl' hk' hn'
  exact ⟨v, T', L, X', hQ, st⟩
theorem specQ (X : Stand p l e R s m args below meth c T locs cells slots) (hx : p.tables.exec = Jvm.exec) (hZ : Z.Warmed39 s.vm) {own : String} {index : Nat} {y : MethodName} {bytes : ByteArray} {maxL : Nat} (hy1 : y.name = "<init>") (hown : s.vm.findClass own = some m.cls)
    (w1 : (Cond.methodLink own index y).before a0 Z = true) (w2 : (Cond.instanceMethod y).before a0 Z = true) (w3 : (Cond.initialized y.cls).before a0 Z = true) (w4 : (Cond.code y bytes maxL none).before a0 Z = true) (hy : y.cls ≠ "java/lang/invoke/MethodHandle" ∧ y.cls ≠ "java/lang/invoke/VarHandle")
    {rm : Room} {a : Addr} {argsL rest : List Value} {Q : Option Value → Heap → List Loc → Prop} (hM : Meets1 l y bytes maxL none rm Z (.ref a :: argsL).toArray h Q) {W : Nat} (hf : rm.frames + 1 ≤ R.frames) (hl : W + (maxL + 11) + rm.locals ≤ R.locals) (eT : T.heap = h)
    {g : JFrame} (hg : g.method = m) (hsize : g.locals.size = c.maxLocals) (hlen : ∀ sig, parseMethodDescriptor y.desc = some sig → argsL.length = sig.parameters.length) (hstack : g.stack = argsL.reverse ++ .ref a :: rest) (hW : 2 * g.monitorRoom + (rest.map fun v => v.category).sum ≤ W) (hd : decode c.code g.pc = .ok (.invokespecial index, 3)) (hc : cells + rm.cells ≤ R.cells) (hs : slots + rm.slots ≤ R.slots) :
    ∃ v T' L, Stand p l e R s m args below meth c T' (locs ++ L) (cells + rm.cells) (slots + rm.slots) ∧ Q v T'.heap L ∧ ∀ target, Steps p.tables e below (T'.setTop { g with pc := g.pc + 3, stack := v.toList ++ rest }) target → Steps p.tables e below (T.setTop g) target := by
  obtain ⟨v, _, ⟨T', L', k', n'⟩, -, X', ⟨L, hQ, hl', hk', hn'⟩, st⟩ := X.specialBack hx hy1 hown (mvT hZ w1) (mvT hZ w2) (mvT hZ w4) hy (backOf (W := W) hM hZ w4 w3 hf hl) hg hsize (Steps.refl _) hlen hstack hW hd (fun _ _ => ⟨rfl, eT, hc, hs⟩)
  dsimp only [Pt.U, Pt.locs, Pt.cells, Pt.slots] at X' hl' hk' hn' st hQ
  subst hl' hk' hn'
  exact ⟨v, T', L, X', hQ, fun t k => st.trans k⟩
theorem virtQ (X : Stand p l e R s m args below meth c T locs cells slots) (hx : p.tables.exec = Jvm.exec) (hZ : Z.Warmed39 s.vm) {own : String} {index : Nat} {y : MethodName} {bytes : ByteArray} {maxL : Nat} {ret : Option FieldType} (hown : s.vm.findClass own = some m.cls)
    (w1 : (Cond.methodLink own index y).before a0 Z = true) (w2 : (Cond.instanceMethod y).before a0 Z = true) (w3 : (Cond.initialized y.cls).before a0 Z = true) (w4 : (Cond.code y bytes maxL ret).before a0 Z = true) (w5 : (Cond.declares y).before a0 Z = true) (w6 : (Cond.selects y.cls y y).before a0 Z = true) (hy : y.cls ≠ "java/lang/invoke/MethodHandle" ∧ y.cls ≠ "java/lang/invoke/VarHandle")
    {rm : Room} {a : Addr} (E : Exa Z h a y.cls) {argsL rest : List Value} {Q : Option Value → Heap → List Loc → Prop} (hM : Meets1 l y bytes maxL ret rm Z (.ref a :: argsL).toArray h Q) {W : Nat} (hf : rm.frames + 1 ≤ R.frames) (hl : W + (maxL + 11) + rm.locals ≤ R.locals) (eT : T.heap = h)
    {g : JFrame} (hg : g.method = m) (hsize : g.locals.size = c.maxLocals) (hlen : ∀ sig, parseMethodDescriptor y.desc = some sig → argsL.length = sig.parameters.length) (hstack : g.stack = argsL.reverse ++ .ref a :: rest) (hW : 2 * g.monitorRoom + (rest.map fun v => v.category).sum ≤ W) (hd : decode c.code g.pc = .ok (.invokevirtual index, 3)) (hc : cells + rm.cells ≤ R.cells) (hs : slots + rm.slots ≤ R.slots) :
    ∃ v T' L, Stand p l e R s m args below meth c T' (locs ++ L) (cells + rm.cells) (slots + rm.slots) ∧ Q v T'.heap L ∧ ∀ target, Steps p.tables e below (T'.setTop { g with pc := g.pc + 3, stack := v.toList ++ rest }) target → Steps p.tables e below (T.setTop g) target := by
  obtain ⟨cq, kq, qa, qb, qc⟩ := isOf hZ eT E
  obtain ⟨v, _, ⟨T', L', k', n'⟩, -, X', ⟨L, hQ, hl', hk', hn'⟩, st⟩ := X.virtualBack hx (y := y) (z := y) hown (mvT hZ w1) (mvT hZ w5) (notFace_of_selects (args := #[]) (mvT hZ w6)) (mvT hZ w6) (mvT hZ w2) hy (backOf (W := W) hM hZ w4 w3 hf hl) qa qc hg hsize (Steps.refl _) hlen hstack hW hd (fun _ _ => ⟨rfl, eT, hc, hs⟩)
  dsimp only [Pt.U, Pt.locs, Pt.cells, Pt.slots] at X' hl' hk' hn' st hQ
  subst hl' hk' hn'
  exact ⟨v, T', L, X', hQ, fun t k => st.trans k⟩
theorem privQ (X : Stand p l e R s m args below meth c T locs cells slots) (hx : p.tables.exec = Jvm.exec) (hZ : Z.Warmed39 s.vm) {own : String} {index : Nat} {y : MethodName} {bytes : ByteArray} {maxL : Nat} {ret : Option FieldType} (hown : s.vm.findClass own = some m.cls)
    (w1 : (Cond.methodLink own index y).before a0 Z = true) (w2 : (Cond.instanceMethod y).before a0 Z = true) (w3 : (Cond.initialized y.cls).before a0 Z = true) (w4 : (Cond.code y bytes maxL ret).before a0 Z = true) (w5 : (Cond.privateMethod y).before a0 Z = true) (w6 : (Cond.selects y.cls y y).before a0 Z = true) (hy : y.cls ≠ "java/lang/invoke/MethodHandle" ∧ y.cls ≠ "java/lang/invoke/VarHandle")
    {rm : Room} {a : Addr} {C : String} (E : Exa Z h a C) {argsL rest : List Value} {Q : Option Value → Heap → List Loc → Prop} (hM : Meets1 l y bytes maxL ret rm Z (.ref a :: argsL).toArray h Q) {W : Nat} (hf : rm.frames + 1 ≤ R.frames) (hl : W + (maxL + 11) + rm.locals ≤ R.locals) (eT : T.heap = h)
    {g : JFrame} (hg : g.method = m) (hsize : g.locals.size = c.maxLocals) (hlen : ∀ sig, parseMethodDescriptor y.desc = some sig → argsL.length = sig.parameters.length) (hstack : g.stack = argsL.reverse ++ .ref a :: rest) (hW : 2 * g.monitorRoom + (rest.map fun v => v.category).sum ≤ W) (hd : decode c.code g.pc = .ok (.invokevirtual index, 3)) (hc : cells + rm.cells ≤ R.cells) (hs : slots + rm.slots ≤ R.slots) :
    ∃ v T' L, Stand p l e R s m args below meth c T' (locs ++ L) (cells + rm.cells) (slots + rm.slots) ∧ Q v T'.heap L ∧ ∀ target, Steps p.tables e below (T'.setTop { g with pc := g.pc + 3, stack := v.toList ++ rest }) target → Steps p.tables e below (T.setTop g) target := by
  obtain ⟨cq, q1, q2⟩ := E.cell
  obtain ⟨v, _, ⟨T', L', k', n'⟩, -, X', ⟨L, hQ, hl', hk', hn'⟩, st⟩ := X.privateBack hx (y := y) hown (mvT hZ w1) (mvT hZ w2) (mvT hZ w6) (Cond.privateMethod_at (mvP hZ w5 (args := #[]))) (mvT hZ w4) hy (backOf (W := W) hM hZ w4 w3 hf hl) hg hsize (Steps.refl _) (a := a) (by rw [eT]; exact q1) q2 hlen hstack hW hd (fun _ _ => ⟨rfl, eT, hc, hs⟩)
  dsimp only [Pt.U, Pt.locs, Pt.cells, Pt.slots] at X' hl' hk' hn' st hQ
  subst hl' hk' hn'
  exact ⟨v, T', L, X', hQ, fun t k => st.trans k⟩
end Calls
theorem ef_rm2 (m : MethodId) (o0 : Addr) : entryFrame m #[(.ref o0)] 1 = mkF m 0 #[.val (.ref o0)] [] := by first | (simp [entryFrame, mkF, argsToLocals, Value.category]; done) | rfl
theorem pn_0 : plainName "java/lang/Record" = true := by first | (simp [plainName, overriddenIn]; done) | decide +kernel
def Q_rm2 (Z : State) (o0 : Addr)  (h0 : Heap) (n0 : Nat) (v : Option Value) (h : Heap) (L : List Loc) : Prop := v = none ∧ Fr n0 L ∧ h = h0
theorem d2_0 : decode jdk_30_method_1_code 0 = .ok (.aload_n 0, 1) := by decide +kernel
theorem d2_1 : decode jdk_30_method_1_code 1 = .ok (.invokespecial 1, 3) := by decide +kernel
theorem d2_4 : decode jdk_30_method_1_code 4 = .ok (.return_, 1) := by decide +kernel
set_option maxRecDepth 65536 in
set_option maxHeartbeats 40000000 in
theorem rm2 (l : Launch) (Z : State) (a0 : Array Value) (hw : ∀ d ∈ tables_1, d.before a0 Z = true) (ws : List Jvm.Cond) (o0 : Addr)  (h0 : Heap) (n0 : Nat) (Z0 : n0 ≤ h0.size)  :
    MetFree l (⟨"java/lang/Record", "<init>", "()V"⟩ : MethodName) (head1 (Jvm.Cond.code (⟨"java/lang/Record", "<init>", "()V"⟩ : MethodName) jdk_30_method_1_code 1 none :: ws) ({ frames := 1, cells := 0, slots := 0, locals := 12 } : Room)) (fun a U => a = #[(.ref o0)] ∧ Z.Warmed39 U.vm ∧ U.heap = h0) (fun _ _ _ _ _ => True) (fun _ U o U' => ∃ v L, o = .returned v ∧ (Q_rm2 Z o0 h0 n0) v U'.heap L ∧ FrameEnd U o U' L ({ frames := 1, cells := 0, slots := 0, locals := 12 } : Room).cells ({ frames := 1, cells := 0, slots := 0, locals := 12 } : Room).slots) := by
  refine MetFree.of_bodySF (plainFor_of_name pn_0) hisR ?_
  intro p e s m args below meth c s₁ Bd hml0 hP hK
  obtain ⟨rfl, hZ, hh⟩ := hP
  have hx := Bd.exec
  have hby := Bd.bytes
  have hml : c.maxLocals = 1 := hml0
  have hown : s.vm.findClass "java/lang/Record" = some m.cls := findClass_of_methodNamed Bd.named
  have hnm := (name_of_methodNamed Bd.named Bd.method).1
  have X0 : Stand p l e ({ frames := 1, cells := 0, slots := 0, locals := 12 } : Room) s m #[(.ref o0)] below meth c s₁ [] 0 0 := Stand.of_body Bd
  have e0 : s₁.heap = h0 := by rw [← hh, Bd.state]; rfl
  have N0 := Fr.nil n0
  show OFin p e below (ORet (Q_rm2 Z o0 h0 n0) s ({ frames := 1, cells := 0, slots := 0, locals := 12 } : Room).cells ({ frames := 1, cells := 0, slots := 0, locals := 12 } : Room).slots) (s₁.setTop (entryFrame m #[(.ref o0)] 1))
  refine OFin.go (fun t k => castTop (ef_rm2 m o0) k) ?_
  show OFin p e below (ORet (Q_rm2 Z o0 h0 n0) s ({ frames := 1, cells := 0, slots := 0, locals := 12 } : Room).cells ({ frames := 1, cells := 0, slots := 0, locals := 12 } : Room).slots) (s₁.setTop (mkF m 0 #[.val (.ref o0)] []))
  have S1 : ∀ t, Steps p.tables e below (s₁.setTop (mkF m 1 #[.val (.ref o0)] [(.ref o0)])) t → Steps p.tables e below (s₁.setTop (mkF m 0 #[.val (.ref o0)] [])) t := by
    intro t k
    show Steps p.tables e below (s₁.setTop (mkF m 0 #[.val (.ref o0)] [])) t
    refine XS.aloadN X0.here hx rfl (hb hby d2_0) rfl rfl ?_
    exact k
  refine OFin.go S1 ?_
  obtain ⟨T2, X2, e2, st2⟩ := initO X0 hx hZ hown (hw _ (List.mem_of_getElem? (i := 11) rfl)) (hw _ (List.mem_of_getElem? (i := 12) rfl)) (hw _ (List.mem_of_getElem? (i := 13) rfl)) e0 (g := (mkF m 1 #[.val (.ref o0)] [(.ref o0)])) rfl (by rw [hml]; rfl) rfl (hb hby d2_1) (by decide) (W := 0) (by show 2 * 0 + _ ≤ _; exact Nat.le_of_eq rfl) (by decide)
  refine OFin.go st2 ?_
  show OFin p e below _ (T2.setTop (mkF m 4 #[.val (.ref o0)] []))
  exact finV X2 hx Bd.notSynchronized Bd.returns (hb hby d2_4) (by decide) (by decide) (⟨rfl, N0, e2⟩)
theorem ef_rm1 (m : MethodId) (o0 : Addr) (x : UInt64) (y : UInt64) : entryFrame m #[(.ref o0), (.double x), (.double y)] 5 = mkF m 0 #[.val (.ref o0), .val (.double x), .second, .val (.double y), .second] [] := by first | (simp [entryFrame, mkF, argsToLocals, Value.category]; done) | rfl
theorem pn_1 : plainName "com/example/cardbench/cardbench/Tone" = true := by first | (simp [plainName, overriddenIn]; done) | decide +kernel
def Q_rm1 (Z : State) (o0 : Addr) (x : UInt64) (y : UInt64)  (h0 : Heap) (n0 : Nat) (v : Option Value) (h : Heap) (L : List Loc) : Prop := v = none ∧ Fr n0 L ∧ Keep h0 h [o0] ∧ Fld Z h o0 "com/example/cardbench/cardbench/Tone" "amplitude" "D" (.double x) ∧ Fld Z h o0 "com/example/cardbench/cardbench/Tone" "phase" "D" (.double y)
theorem d1_0 : decode prog_45_method_1_code 0 = .ok (.aload_n 0, 1) := by decide +kernel
theorem pd_0 : parseMethodDescriptor "()V" = some ⟨[], none⟩ := by decide +kernel
theorem d1_1 : decode prog_45_method_1_code 1 = .ok (.invokespecial 1, 3) := by decide +kernel
theorem d1_4 : decode prog_45_method_1_code 4 = .ok (.aload_n 0, 1) := by decide +kernel
theorem d1_5 : decode prog_45_method_1_code 5 = .ok (.dload_n 1, 1) := by decide +kernel
theorem d1_6 : decode prog_45_method_1_code 6 = .ok (.putfield 7, 3) := by decide +kernel
theorem d1_9 : decode prog_45_method_1_code 9 = .ok (.aload_n 0, 1) := by decide +kernel
theorem d1_10 : decode prog_45_method_1_code 10 = .ok (.dload_n 3, 1) := by decide +kernel
theorem d1_11 : decode prog_45_method_1_code 11 = .ok (.putfield 13, 3) := by decide +kernel
theorem d1_14 : decode prog_45_method_1_code 14 = .ok (.return_, 1) := by decide +kernel
set_option maxRecDepth 65536 in
set_option maxHeartbeats 40000000 in
theorem rm1 (l : Launch) (Z : State) (a0 : Array Value) (hw : ∀ d ∈ tables_1, d.before a0 Z = true) (ws : List Jvm.Cond) (o0 : Addr) (x : UInt64) (y : UInt64)  (h0 : Heap) (n0 : Nat) (Z0 : n0 ≤ h0.size) (ge0 : n0 ≤ o0) (E_o0 : Exa Z h0 o0 "com/example/cardbench/cardbench/Tone") (F_o0_amplitude : Fld Z h0 o0 "com/example/cardbench/cardbench/Tone" "amplitude" "D" (.double (0 : UInt64))) (F_o0_phase : Fld Z h0 o0 "com/example/cardbench/cardbench/Tone" "phase" "D" (.double (0 : UInt64))) :
    MetFree l (⟨"com/example/cardbench/cardbench/Tone", "<init>", "(DD)V"⟩ : MethodName) (head1 (Jvm.Cond.code (⟨"com/example/cardbench/cardbench/Tone", "<init>", "(DD)V"⟩ : MethodName) prog_45_method_1_code 5 none :: ws) ({ frames := 2, cells := 0, slots := 0, locals := 24 } : Room)) (fun a U => a = #[(.ref o0), (.double x), (.double y)] ∧ Z.Warmed39 U.vm ∧ U.heap = h0) (fun _ _ _ _ _ => True) (fun _ U o U' => ∃ v L, o = .returned v ∧ (Q_rm1 Z o0 x y h0 n0) v U'.heap L ∧ FrameEnd U o U' L ({ frames := 2, cells := 0, slots := 0, locals := 24 } : Room).cells ({ frames := 2, cells := 0, slots := 0, locals := 24 } : Room).slots) := by
  refine MetFree.of_bodySF (plainFor_of_name pn_1) hisR ?_
  intro p e s m args below meth c s₁ Bd hml0 hP hK
  obtain ⟨rfl, hZ, hh⟩ := hP
  have hx := Bd.exec
  have hby := Bd.bytes
  have hml : c.maxLocals = 5 := hml0
  have hown : s.vm.findClass "com/example/cardbench/cardbench/Tone" = some m.cls := findClass_of_methodNamed Bd.named
  have hnm := (name_of_methodNamed Bd.named Bd.method).1
  have X0 : Stand p l e ({ frames := 2, cells := 0, slots := 0, locals := 24 } : Room) s m #[(.ref o0), (.double x), (.double y)] below meth c s₁ [] 0 0 := Stand.of_body Bd
  have e0 : s₁.heap = h0 := by rw [← hh, Bd.state]; rfl
  have N0 := Fr.nil n0
  show OFin p e below (ORet (Q_rm1 Z o0 x y h0 n0) s ({ frames := 2, cells := 0, slots := 0, locals := 24 } : Room).cells ({ frames := 2, cells := 0, slots := 0, locals := 24 } : Room).slots) (s₁.setTop (entryFrame m #[(.ref o0), (.double x), (.double y)] 5))
  refine OFin.go (fun t k => castTop (ef_rm1 m o0 x y) k) ?_
  have K0 := Keep.refl h0 [o0]
  show OFin p e below (ORet (Q_rm1 Z o0 x y h0 n0) s ({ frames := 2, cells := 0, slots := 0, locals := 24 } : Room).cells ({ frames := 2, cells := 0, slots := 0, locals := 24 } : Room).slots) (s₁.setTop (mkF m 0 #[.val (.ref o0), .val (.double x), .second, .val (.double y), .second] []))
  have S1 : ∀ t, Steps p.tables e below (s₁.setTop (mkF m 1 #[.val (.ref o0), .val (.double x), .second, .val (.double y), .second] [(.ref o0)])) t → Steps p.tables e below (s₁.setTop (mkF m 0 #[.val (.ref o0), .val (.double x), .second, .val (.double y), .second] [])) t := by
    intro t k
    show Steps p.tables e below (s₁.setTop (mkF m 0 #[.val (.ref o0), .val (.double x), .second, .val (.double y), .second] [])) t
    refine XS.aloadN X0.here hx rfl (hb hby d1_0) rfl rfl ?_
    exact k
  refine OFin.go S1 ?_
  obtain ⟨_, T2, Lc2, X2, hQ2, st2⟩ := specQ X0 hx hZ (y := (⟨"java/lang/Record", "<init>", "()V"⟩ : MethodName)) rfl hown (hw _ (List.mem_of_getElem? (i := 6) rfl)) (hw _ (List.mem_of_getElem? (i := 7) rfl)) (hw _ (List.mem_of_getElem? (i := 9) rfl)) (hw _ (List.mem_of_getElem? (i := 10) rfl)) (by decide) (a := o0) (argsL := []) (rest := []) (rm2 l Z a0 hw [] o0 h0 n0 Z0) (W := 0) (by decide) (by decide) e0 (g := (mkF m 1 #[.val (.ref o0), .val (.double x), .second, .val (.double y), .second] [(.ref o0)])) rfl (by rw [hml]; rfl) (lenOf pd_0 rfl) rfl (by show 2 * 0 + _ ≤ _; exact Nat.le_of_eq rfl) (hb hby d1_1) (Nat.le_of_ble_eq_true rfl) (Nat.le_of_ble_eq_true rfl)
  obtain ⟨rfl, N2q, e2⟩ := hQ2
  have N2 := Fr.app N0 N2q
  refine OFin.go st2 ?_
  show OFin p e below _ (T2.setTop (mkF m 4 #[.val (.ref o0), .val (.double x), .second, .val (.double y), .second] []))
  have S3 : ∀ t, Steps p.tables e below (T2.setTop (mkF m 6 #[.val (.ref o0), .val (.double x), .second, .val (.double y), .second] [(.double x), (.ref o0)])) t → Steps p.tables e below (T2.setTop (mkF m 4 #[.val (.ref o0), .val (.double x), .second, .val (.double y), .second] [])) t := by
    intro t k
    show Steps p.tables e below (T2.setTop (mkF m 4 #[.val (.ref o0), .val (.double x), .second, .val (.double y), .second] [])) t
    refine XS.aloadN X2.here hx rfl (hb hby d1_4) rfl rfl ?_
    show Steps p.tables e below (T2.setTop (mkF m 5 #[.val (.ref o0), .val (.double x), .second, .val (.double y), .second] [(.ref o0)])) t
    refine XS.dloadN X2.here hx rfl (hb hby d1_5) rfl ?_
    exact k
  refine OFin.go S3 ?_
  obtain ⟨T4, h4, X4, e4, W4, st4⟩ := putF X2 hx hZ hown (host := "") (Or.inl (hw _ (List.mem_of_getElem? (i := 14) rfl))) Via.refl e2 F_o0_amplitude E_o0 (Or.inr ⟨(hw _ (List.mem_of_getElem? (i := 15) rfl)), rfl, hnm⟩) (hw _ (List.mem_of_getElem? (i := 1) rfl)) (ty := .double) (by decide) rfl rfl (g := (mkF m 6 #[.val (.ref o0), .val (.double x), .second, .val (.double y), .second] [(.double x), (.ref o0)])) rfl rfl (hb hby d1_6)
  have Fw4 := F_o0_amplitude.same W4
  have N4 := Fr.snoc X4 N2 ge0
  have Z4 : n0 ≤ h4.size := Nat.le_trans Z0 (wr_le W4)
  have K4 := Keep.wr K0 W4 (Or.inl (List.mem_of_getElem? (i := 0) rfl))
  refine OFin.go st4 ?_
  show OFin p e below _ (T4.setTop (mkF m 9 #[.val (.ref o0), .val (.double x), .second, .val (.double y), .second] []))
  have S5 : ∀ t, Steps p.tables e below (T4.setTop (mkF m 11 #[.val (.ref o0), .val (.double x), .second, .val (.double y), .second] [(.double y), (.ref o0)])) t → Steps p.tables e below (T4.setTop (mkF m 9 #[.val (.ref o0), .val (.double x), .second, .val (.double y), .second] [])) t := by
    intro t k
    show Steps p.tables e below (T4.setTop (mkF m 9 #[.val (.ref o0), .val (.double x), .second, .val (.double y), .second] [])) t
    refine XS.aloadN X4.here hx rfl (hb hby d1_9) rfl rfl ?_
    show Steps p.tables e below (T4.setTop (mkF m 10 #[.val (.ref o0), .val (.double x), .second, .val (.double y), .second] [(.ref o0)])) t
    refine XS.dloadN X4.here hx rfl (hb hby d1_10) rfl ?_
    exact k
  refine OFin.go S5 ?_
  have F6 := F_o0_phase.other W4 (Or.inr (slot_ne (Or.inr (hw _ (List.mem_of_getElem? (i := 17) rfl))) (Or.inr (hw _ (List.mem_of_getElem? (i := 15) rfl))) (by decide) (t := .double) (t' := .double) (by decide) (by decide)))
  have F7 := E_o0.wr W4
  obtain ⟨T8, h8, X8, e8, W8, st8⟩ := putF X4 hx hZ hown (host := "") (Or.inl (hw _ (List.mem_of_getElem? (i := 16) rfl))) Via.refl e4 F6 F7 (Or.inr ⟨(hw _ (List.mem_of_getElem? (i := 17) rfl)), rfl, hnm⟩) (hw _ (List.mem_of_getElem? (i := 1) rfl)) (ty := .double) (by decide) rfl rfl (g := (mkF m 11 #[.val (.ref o0), .val (.double x), .second, .val (.double y), .second] [(.double y), (.ref o0)])) rfl rfl (hb hby d1_11)
  have Fw8 := F6.same W8
  have N8 := Fr.snoc X8 N4 ge0
  have Z8 : n0 ≤ h8.size := Nat.le_trans Z4 (wr_le W8)
  have K8 := Keep.wr K4 W8 (Or.inl (List.mem_of_getElem? (i := 0) rfl))
  refine OFin.go st8 ?_
  show OFin p e below _ (T8.setTop (mkF m 14 #[.val (.ref o0), .val (.double x), .second, .val (.double y), .second] []))
  have F9 := Fw4.other W8 (Or.inr (slot_ne (Or.inr (hw _ (List.mem_of_getElem? (i := 15) rfl))) (Or.inr (hw _ (List.mem_of_getElem? (i := 17) rfl))) (by decide) (t := .double) (t' := .double) (by decide) (by decide)))
  exact finV X8 hx Bd.notSynchronized Bd.returns (hb hby d1_14) (by decide) (by decide) (by rw [e8]; exact ⟨rfl, N8, K8, F9, Fw8⟩)
theorem ef_rm4 (m : MethodId) (o0 : Addr) (xa : Int32) (xb : UInt64) (xc : Int32) (o4 : Addr) (o5 : Addr) (o6 : Addr) : entryFrame m #[(.ref o0), (.int xa), (.double xb), (.int xc), (.ref o4), (.ref o5), (.ref o6)] 8 = mkF m 0 #[.val (.ref o0), .val (.int xa), .val (.double xb), .second, .val (.int xc), .val (.ref o4), .val (.ref o5), .val (.ref o6)] [] := by first | (simp [entryFrame, mkF, argsToLocals, Value.category]; done) | rfl
theorem pn_2 : plainName "com/example/cardbench/cardbench/LoadModulation$Result" = true := by first | (simp [plainName, overriddenIn]; done) | decide +kernel
def Q_rm4 (Z : State) (o0 : Addr) (xa : Int32) (xb : UInt64) (xc : Int32) (o4 : Addr) (o5 : Addr) (o6 : Addr)  (h0 : Heap) (n0 : Nat) (v : Option Value) (h : Heap) (L : List Loc) : Prop := v = none ∧ Fr n0 L ∧ Keep h0 h [o0] ∧ Fld Z h o0 "com/example/cardbench/cardbench/LoadModulation$Result" "samples" "I" (.int xa) ∧ Fld Z h o0 "com/example/cardbench/cardbench/LoadModulation$Result" "sampleInterval" "D" (.double xb) ∧ Fld Z h o0 "com/example/cardbench/cardbench/LoadModulation$Result" "window" "I" (.int xc) ∧ Fld Z h o0 "com/example/cardbench/cardbench/LoadModulation$Result" "carrier" "Lcom/example/cardbench/cardbench/Tone;" (.ref o4) ∧ Fld Z h o0 "com/example/cardbench/cardbench/LoadModulation$Result" "upperSideband" "Lcom/example/cardbench/cardbench/Tone;" (.ref o5) ∧ Fld Z h o0 "com/example/cardbench/cardbench/LoadModulation$Result" "lowerSideband" "Lcom/example/cardbench/cardbench/Tone;" (.ref o6)
theorem d4_0 : decode prog_23_method_1_code 0 = .ok (.aload_n 0, 1) := by decide +kernel
theorem d4_1 : decode prog_23_method_1_code 1 = .ok (.invokespecial 1, 3) := by decide +kernel
theorem d4_4 : decode prog_23_method_1_code 4 = .ok (.aload_n 0, 1) := by decide +kernel
theorem d4_5 : decode prog_23_method_1_code 5 = .ok (.iload_n 1, 1) := by decide +kernel
theorem d4_6 : decode prog_23_method_1_code 6 = .ok (.putfield 7, 3) := by decide +kernel
theorem d4_9 : decode prog_23_method_1_code 9 = .ok (.aload_n 0, 1) := by decide +kernel
theorem d4_10 : decode prog_23_method_1_code 10 = .ok (.dload_n 2, 1) := by decide +kernel
theorem d4_11 : decode prog_23_method_1_code 11 = .ok (.putfield 13, 3) := by decide +kernel
theorem d4_14 : decode prog_23_method_1_code 14 = .ok (.aload_n 0, 1) := by decide +kernel
theorem d4_15 : decode prog_23_method_1_code 15 = .ok (.iload 4, 2) := by decide +kernel
theorem d4_17 : decode prog_23_method_1_code 17 = .ok (.putfield 17, 3) := by decide +kernel
theorem d4_20 : decode prog_23_method_1_code 20 = .ok (.aload_n 0, 1) := by decide +kernel
theorem d4_21 : decode prog_23_method_1_code 21 = .ok (.aload 5, 2) := by decide +kernel
theorem d4_23 : decode prog_23_method_1_code 23 = .ok (.putfield 20, 3) := by decide +kernel
theorem d4_26 : decode prog_23_method_1_code 26 = .ok (.aload_n 0, 1) := by decide +kernel
theorem d4_27 : decode prog_23_method_1_code 27 = .ok (.aload 6, 2) := by decide +kernel
theorem d4_29 : decode prog_23_method_1_code 29 = .ok (.putfield 24, 3) := by decide +kernel
theorem d4_32 : decode prog_23_method_1_code 32 = .ok (.aload_n 0, 1) := by decide +kernel
theorem d4_33 : decode prog_23_method_1_code 33 = .ok (.aload 7, 2) := by decide +kernel
theorem d4_35 : decode prog_23_method_1_code 35 = .ok (.putfield 27, 3) := by decide +kernel
theorem d4_38 : decode prog_23_method_1_code 38 = .ok (.return_, 1) := by decide +kernel
set_option maxRecDepth 65536 in
set_option maxHeartbeats 40000000 in
theorem rm4 (l : Launch) (Z : State) (a0 : Array Value) (hw : ∀ d ∈ tables_1, d.before a0 Z = true) (ws : List Jvm.Cond) (o0 : Addr) (xa : Int32) (xb : UInt64) (xc : Int32) (o4 : Addr) (o5 : Addr) (o6 : Addr)  (h0 : Heap) (n0 : Nat) (Z0 : n0 ≤ h0.size) (ge0 : n0 ≤ o0) (E_o0 : Exa Z h0 o0 "com/example/cardbench/cardbench/LoadModulation$Result") (F_o0_samples : Fld Z h0 o0 "com/example/cardbench/cardbench/LoadModulation$Result" "samples" "I" (.int (0 : Int32))) (F_o0_sampleInterval : Fld Z h0 o0 "com/example/cardbench/cardbench/LoadModulation$Result" "sampleInterval" "D" (.double (0 : UInt64))) (F_o0_window : Fld Z h0 o0 "com/example/cardbench/cardbench/LoadModulation$Result" "window" "I" (.int (0 : Int32))) (F_o0_carrier : Fld Z h0 o0 "com/example/cardbench/cardbench/LoadModulation$Result" "carrier" "Lcom/example/cardbench/cardbench/Tone;" .null) (F_o0_upperSideband : Fld Z h0 o0 "com/example/cardbench/cardbench/LoadModulation$Result" "upperSideband" "Lcom/example/cardbench/cardbench/Tone;" .null) (F_o0_lowerSideband : Fld Z h0 o0 "com/example/cardbench/cardbench/LoadModulation$Result" "lowerSideband" "Lcom/example/cardbench/cardbench/Tone;" .null) :
    MetFree l (⟨"com/example/cardbench/cardbench/LoadModulation$Result", "<init>", "(IDILcom/example/cardbench/cardbench/Tone;Lcom/example/cardbench/cardbench/Tone;Lcom/example/cardbench/cardbench/Tone;)V"⟩ : MethodName) (head1 (Jvm.Cond.code (⟨"com/example/cardbench/cardbench/LoadModulation$Result", "<init>", "(IDILcom/example/cardbench/cardbench/Tone;Lcom/example/cardbench/cardbench/Tone;Lcom/example/cardbench/cardbench/Tone;)V"⟩ : MethodName) prog_23_method_1_code 8 none :: ws) ({ frames := 2, cells := 0, slots := 0, locals := 24 } : Room)) (fun a U => a = #[(.ref o0), (.int xa), (.double xb), (.int xc), (.ref o4), (.ref o5), (.ref o6)] ∧ Z.Warmed39 U.vm ∧ U.heap = h0) (fun _ _ _ _ _ => True) (fun _ U o U' => ∃ v L, o = .returned v ∧ (Q_rm4 Z o0 xa xb xc o4 o5 o6 h0 n0) v U'.heap L ∧ FrameEnd U o U' L ({ frames := 2, cells := 0, slots := 0, locals := 24 } : Room).cells ({ frames := 2, cells := 0, slots := 0, locals := 24 } : Room).slots) := by
  refine MetFree.of_bodySF (plainFor_of_name pn_2) hisR ?_
  intro p e s m args below meth c s₁ Bd hml0 hP hK
  obtain ⟨rfl, hZ, hh⟩ := hP
  have hx := Bd.exec
  have hby := Bd.bytes
  have hml : c.maxLocals = 8 := hml0
  have hown : s.vm.findClass "com/example/cardbench/cardbench/LoadModulation$Result" = some m.cls := findClass_of_methodNamed Bd.named
  have hnm := (name_of_methodNamed Bd.named Bd.method).1
  have X0 : Stand p l e ({ frames := 2, cells := 0, slots := 0, locals := 24 } : Room) s m #[(.ref o0), (.int xa), (.double xb), (.int xc), (.ref o4), (.ref o5), (.ref o6)] below meth c s₁ [] 0 0 := Stand.of_body Bd
  have e0 : s₁.heap = h0 := by rw [← hh, Bd.state]; rfl
  have N0 := Fr.nil n0
  show OFin p e below (ORet (Q_rm4 Z o0 xa xb xc o4 o5 o6 h0 n0) s ({ frames := 2, cells := 0, slots := 0, locals := 24 } : Room).cells ({ frames := 2, cells := 0, slots := 0, locals := 24 } : Room).slots) (s₁.setTop (entryFrame m #[(.ref o0), (.int xa), (.double xb), (.int xc), (.ref o4), (.ref o5), (.ref o6)] 8))
  refine OFin.go (fun t k => castTop (ef_rm4 m o0 xa xb xc o4 o5 o6) k) ?_
  have K0 := Keep.refl h0 [o0]
  show OFin p e below (ORet (Q_rm4 Z o0 xa xb xc o4 o5 o6 h0 n0) s ({ frames := 2, cells := 0, slots := 0, locals := 24 } : Room).cells ({ frames := 2, cells := 0, slots := 0, locals := 24 } : Room).slots) (s₁.setTop (mkF m 0 #[.val (.ref o0), .val (.int xa), .val (.double xb), .second, .val (.int xc), .val (.ref o4), .val (.ref o5), .val (.ref o6)] []))
  have S1 : ∀ t, Steps p.tables e below (s₁.setTop (mkF m 1 #[.val (.ref o0), .val (.int xa), .val (.double xb), .second, .val (.int xc), .val (.ref o4), .val (.ref o5), .val (.ref o6)] [(.ref o0)])) t → Steps p.tables e below (s₁.setTop (mkF m 0 #[.val (.ref o0), .val (.int xa), .val (.double xb), .second, .val (.int xc), .val (.ref o4), .val (.ref o5), .val (.ref o6)] [])) t := by
    intro t k
    show Steps p.tables e below (s₁.setTop (mkF m 0 #[.val (.ref o0), .val (.int xa), .val (.double xb), .second, .val (.int xc), .val (.ref o4), .val (.ref o5), .val (.ref o6)] [])) t
    refine XS.aloadN X0.here hx rfl (hb hby d4_0) rfl rfl ?_
    exact k
  refine OFin.go S1 ?_
  obtain ⟨_, T2, Lc2, X2, hQ2, st2⟩ := specQ X0 hx hZ (y := (⟨"java/lang/Record", "<init>", "()V"⟩ : MethodName)) rfl hown (hw _ (List.mem_of_getElem? (i := 25) rfl)) (hw _ (List.mem_of_getElem? (i := 7) rfl)) (hw _ (List.mem_of_getElem? (i := 9) rfl)) (hw _ (List.mem_of_getElem? (i := 10) rfl)) (by decide) (a := o0) (argsL := []) (rest := []) (rm2 l Z a0 hw [] o0 h0 n0 Z0) (W := 0) (by decide) (by decide) e0 (g := (mkF m 1 #[.val (.ref o0), .val (.int xa), .val (.double xb), .second, .val (.int xc), .val (.ref o4), .val (.ref o5), .val (.ref o6)] [(.ref o0)])) rfl (by rw [hml]; rfl) (lenOf pd_0 rfl) rfl (by show 2 * 0 + _ ≤ _; exact Nat.le_of_eq rfl) (hb hby d4_1) (Nat.le_of_ble_eq_true rfl) (Nat.le_of_ble_eq_true rfl)
  obtain ⟨rfl, N2q, e2⟩ := hQ2
  have N2 := Fr.app N0 N2q
  refine OFin.go st2 ?_
  show OFin p e below _ (T2.setTop (mkF m 4 #[.val (.ref o0), .val (.int xa), .val (.double xb), .second, .val (.int xc), .val (.ref o4), .val (.ref o5), .val (.ref o6)] []))
  have S3 : ∀ t, Steps p.tables e below (T2.setTop (mkF m 6 #[.val (.ref o0), .val (.int xa), .val (.double xb), .second, .val (.int xc), .val (.ref o4), .val (.ref o5), .val (.ref o6)] [(.int xa), (.ref o0)])) t → Steps p.tables e below (T2.setTop (mkF m 4 #[.val (.ref o0), .val (.int xa), .val (.double xb), .second, .val (.int xc), .val (.ref o4), .val (.ref o5), .val (.ref o6)] [])) t := by
    intro t k
    show Steps p.tables e below (T2.setTop (mkF m 4 #[.val (.ref o0), .val (.int xa), .val (.double xb), .second, .val (.int xc), .val (.ref o4), .val (.ref o5), .val (.ref o6)] [])) t
    refine XS.aloadN X2.here hx rfl (hb hby d4_4) rfl rfl ?_
    show Steps p.tables e below (T2.setTop (mkF m 5 #[.val (.ref o0), .val (.int xa), .val (.double xb), .second, .val (.int xc), .val (.ref o4), .val (.ref o5), .val (.ref o6)] [(.ref o0)])) t
    refine XS.iloadN X2.here hx rfl (hb hby d4_5) rfl ?_
    exact k
  refine OFin.go S3 ?_
  obtain ⟨T4, h4, X4, e4, W4, st4⟩ := putF X2 hx hZ hown (host := "") (Or.inl (hw _ (List.mem_of_getElem? (i := 26) rfl))) Via.refl e2 F_o0_samples E_o0 (Or.inr ⟨(hw _ (List.mem_of_getElem? (i := 27) rfl)), rfl, hnm⟩) (hw _ (List.mem_of_getElem? (i := 19) rfl)) (ty := .int) (by decide) rfl rfl (g := (mkF m 6 #[.val (.ref o0), .val (.int xa), .val (.double xb), .second, .val (.int xc), .val (.ref o4), .val (.ref o5), .val (.ref o6)] [(.int xa), (.ref o0)])) rfl rfl (hb hby d4_6)
  have Fw4 := F_o0_samples.same W4
  have N4 := Fr.snoc X4 N2 ge0
  have Z4 : n0 ≤ h4.size := Nat.le_trans Z0 (wr_le W4)
  have K4 := Keep.wr K0 W4 (Or.inl (List.mem_of_getElem? (i := 0) rfl))
  refine OFin.go st4 ?_
  show OFin p e below _ (T4.setTop (mkF m 9 #[.val (.ref o0), .val (.int xa), .val (.double xb), .second, .val (.int xc), .val (.ref o4), .val (.ref o5), .val (.ref o6)] []))
  have S5 : ∀ t, Steps p.tables e below (T4.setTop (mkF m 11 #[.val (.ref o0), .val (.int xa), .val (.double xb), .second, .val (.int xc), .val (.ref o4), .val (.ref o5), .val (.ref o6)] [(.double xb), (.ref o0)])) t → Steps p.tables e below (T4.setTop (mkF m 9 #[.val (.ref o0), .val (.int xa), .val (.double xb), .second, .val (.int xc), .val (.ref o4), .val (.ref o5), .val (.ref o6)] [])) t := by
    intro t k
    show Steps p.tables e below (T4.setTop (mkF m 9 #[.val (.ref o0), .val (.int xa), .val (.double xb), .second, .val (.int xc), .val (.ref o4), .val (.ref o5), .val (.ref o6)] [])) t
    refine XS.aloadN X4.here hx rfl (hb hby d4_9) rfl rfl ?_
    show Steps p.tables e below (T4.setTop (mkF m 10 #[.val (.ref o0), .val (.int xa), .val (.double xb), .second, .val (.int xc), .val (.ref o4), .val (.ref o5), .val (.ref o6)] [(.ref o0)])) t
    refine XS.dloadN X4.here hx rfl (hb hby d4_10) rfl ?_
    exact k
  refine OFin.go S5 ?_
  have F6 := F_o0_sampleInterval.other W4 (Or.inr (slot_ne (Or.inr (hw _ (List.mem_of_getElem? (i := 29) rfl))) (Or.inr (hw _ (List.mem_of_getElem? (i := 27) rfl))) (by decide) (t := .double) (t' := .int) (by decide) (by decide)))
  have F7 := E_o0.wr W4
  obtain ⟨T8, h8, X8, e8, W8, st8⟩ := putF X4 hx hZ hown (host := "") (Or.inl (hw _ (List.mem_of_getElem? (i := 28) rfl))) Via.refl e4 F6 F7 (Or.inr ⟨(hw _ (List.mem_of_getElem? (i := 29) rfl)), rfl, hnm⟩) (hw _ (List.mem_of_getElem? (i := 19) rfl)) (ty := .double) (by decide) rfl rfl (g := (mkF m 11 #[.val (.ref o0), .val (.int xa), .val (.double xb), .second, .val (.int xc), .val (.ref o4), .val (.ref o5), .val (.ref o6)] [(.double xb), (.ref o0)])) rfl rfl (hb hby d4_11)
  have Fw8 := F6.same W8
  have N8 := Fr.snoc X8 N4 ge0
  have Z8 : n0 ≤ h8.size := Nat.le_trans Z4 (wr_le W8)
  have K8 := Keep.wr K4 W8 (Or.inl (List.mem_of_getElem? (i := 0) rfl))
  refine OFin.go st8 ?_
  show OFin p e below _ (T8.setTop (mkF m 14 #[.val (.ref o0), .val (.int xa), .val (.double xb), .second, .val (.int xc), .val (.ref o4), .val (.ref o5), .val (.ref o6)] []))
  have S9 : ∀ t, Steps p.tables e below (T8.setTop (mkF m 17 #[.val (.ref o0), .val (.int xa), .val (.double xb), .second, .val (.int xc), .val (.ref o4), .val (.ref o5), .val (.ref o6)] [(.int xc), (.ref o0)])) t → Steps p.tables e below (T8.setTop (mkF m 14 #[.val (.ref o0), .val (.int xa), .val (.double xb), .second, .val (.int xc), .val (.ref o4), .val (.ref o5), .val (.ref o6)] [])) t := by
    intro t k
    show Steps p.tables e below (T8.setTop (mkF m 14 #[.val (.ref o0), .val (.int xa), .val (.double xb), .second, .val (.int xc), .val (.ref o4), .val (.ref o5), .val (.ref o6)] [])) t
    refine XS.aloadN X8.here hx rfl (hb hby d4_14) rfl rfl ?_
    show Steps p.tables e below (T8.setTop (mkF m 15 #[.val (.ref o0), .val (.int xa), .val (.double xb), .second, .val (.int xc), .val (.ref o4), .val (.ref o5), .val (.ref o6)] [(.ref o0)])) t
    refine XS.iload X8.here hx rfl (hb hby d4_15) rfl ?_
    exact k
  refine OFin.go S9 ?_
  have F10 := F_o0_window.other W4 (Or.inr (slot_ne (Or.inr (hw _ (List.mem_of_getElem? (i := 31) rfl))) (Or.inr (hw _ (List.mem_of_getElem? (i := 27) rfl))) (by decide) (t := .int) (t' := .int) (by decide) (by decide)))
  have F11 := F10.other W8 (Or.inr (slot_ne (Or.inr (hw _ (List.mem_of_getElem? (i := 31) rfl))) (Or.inr (hw _ (List.mem_of_getElem? (i := 29) rfl))) (by decide) (t := .int) (t' := .double) (by decide) (by decide)))
  have F12 := F7.wr W8
  obtain ⟨T13, h13, X13, e13, W13, st13⟩ := putF X8 hx hZ hown (host := "") (Or.inl (hw _ (List.mem_of_getElem? (i := 30) rfl))) Via.refl e8 F11 F12 (Or.inr ⟨(hw _ (List.mem_of_getElem? (i := 31) rfl)), rfl, hnm⟩) (hw _ (List.mem_of_getElem? (i := 19) rfl)) (ty := .int) (by decide) rfl rfl (g := (mkF m 17 #[.val (.ref o0), .val (.int xa), .val (.double xb), .second, .val (.int xc), .val (.ref o4), .val (.ref o5), .val (.ref o6)] [(.int xc), (.ref o0)])) rfl rfl (hb hby d4_17)
  have Fw13 := F11.same W13
  have N13 := Fr.snoc X13 N8 ge0
  have Z13 : n0 ≤ h13.size := Nat.le_trans Z8 (wr_le W13)
  have K13 := Keep.wr K8 W13 (Or.inl (List.mem_of_getElem? (i := 0) rfl))
  refine OFin.go st13 ?_
  show OFin p e below _ (T13.setTop (mkF m 20 #[.val (.ref o0), .val (.int xa), .val (.double xb), .second, .val (.int xc), .val (.ref o4), .val (.ref o5), .val (.ref o6)] []))
  have S14 : ∀ t, Steps p.tables e below (T13.setTop (mkF m 23 #[.val (.ref o0), .val (.int xa), .val (.double xb), .second, .val (.int xc), .val (.ref o4), .val (.ref o5), .val (.ref o6)] [(.ref o4), (.ref o0)])) t → Steps p.tables e below (T13.setTop (mkF m 20 #[.val (.ref o0), .val (.int xa), .val (.double xb), .second, .val (.int xc), .val (.ref o4), .val (.ref o5), .val (.ref o6)] [])) t := by
    intro t k
    show Steps p.tables e below (T13.setTop (mkF m 20 #[.val (.ref o0), .val (.int xa), .val (.double xb), .second, .val (.int xc), .val (.ref o4), .val (.ref o5), .val (.ref o6)] [])) t
    refine XS.aloadN X13.here hx rfl (hb hby d4_20) rfl rfl ?_
    show Steps p.tables e below (T13.setTop (mkF m 21 #[.val (.ref o0), .val (.int xa), .val (.double xb), .second, .val (.int xc), .val (.ref o4), .val (.ref o5), .val (.ref o6)] [(.ref o0)])) t
    refine XS.aload X13.here hx rfl (hb hby d4_21) rfl rfl ?_
    exact k
  refine OFin.go S14 ?_
  have F15 := F_o0_carrier.other W4 (Or.inr (slot_ne (Or.inr (hw _ (List.mem_of_getElem? (i := 33) rfl))) (Or.inr (hw _ (List.mem_of_getElem? (i := 27) rfl))) (by decide) (t := (.object "com/example/cardbench/cardbench/Tone")) (t' := .int) (by decide) (by decide)))
  have F16 := F15.other W8 (Or.inr (slot_ne (Or.inr (hw _ (List.mem_of_getElem? (i := 33) rfl))) (Or.inr (hw _ (List.mem_of_getElem? (i := 29) rfl))) (by decide) (t := (.object "com/example/cardbench/cardbench/Tone")) (t' := .double) (by decide) (by decide)))
  have F17 := F16.other W13 (Or.inr (slot_ne (Or.inr (hw _ (List.mem_of_getElem? (i := 33) rfl))) (Or.inr (hw _ (List.mem_of_getElem? (i := 31) rfl))) (by decide) (t := (.object "com/example/cardbench/cardbench/Tone")) (t' := .int) (by decide) (by decide)))
  have F18 := F12.wr W13
  obtain ⟨T19, h19, X19, e19, W19, st19⟩ := putF X13 hx hZ hown (host := "") (Or.inl (hw _ (List.mem_of_getElem? (i := 32) rfl))) Via.refl e13 F17 F18 (Or.inr ⟨(hw _ (List.mem_of_getElem? (i := 33) rfl)), rfl, hnm⟩) (hw _ (List.mem_of_getElem? (i := 19) rfl)) (ty := (.object "com/example/cardbench/cardbench/Tone")) (by decide) rfl rfl (g := (mkF m 23 #[.val (.ref o0), .val (.int xa), .val (.double xb), .second, .val (.int xc), .val (.ref o4), .val (.ref o5), .val (.ref o6)] [(.ref o4), (.ref o0)])) rfl rfl (hb hby d4_23)
  have Fw19 := F17.same W19
  have N19 := Fr.snoc X19 N13 ge0
  have Z19 : n0 ≤ h19.size := Nat.le_trans Z13 (wr_le W19)
  have K19 := Keep.wr K13 W19 (Or.inl (List.mem_of_getElem? (i := 0) rfl))
  refine OFin.go st19 ?_
  show OFin p e below _ (T19.setTop (mkF m 26 #[.val (.ref o0), .val (.int xa), .val (.double xb), .second, .val (.int xc), .val (.ref o4), .val (.ref o5), .val (.ref o6)] []))
  have S20 : ∀ t, Steps p.tables e below (T19.setTop (mkF m 29 #[.val (.ref o0), .val (.int xa), .val (.double xb), .second, .val (.int xc), .val (.ref o4), .val (.ref o5), .val (.ref o6)] [(.ref o5), (.ref o0)])) t → Steps p.tables e below (T19.setTop (mkF m 26 #[.val (.ref o0), .val (.int xa), .val (.double xb), .second, .val (.int xc), .val (.ref o4), .val (.ref o5), .val (.ref o6)] [])) t := by
    intro t k
    show Steps p.tables e below (T19.setTop (mkF m 26 #[.val (.ref o0), .val (.int xa), .val (.double xb), .second, .val (.int xc), .val (.ref o4), .val (.ref o5), .val (.ref o6)] [])) t
    refine XS.aloadN X19.here hx rfl (hb hby d4_26) rfl rfl ?_
    show Steps p.tables e below (T19.setTop (mkF m 27 #[.val (.ref o0), .val (.int xa), .val (.double xb), .second, .val (.int xc), .val (.ref o4), .val (.ref o5), .val (.ref o6)] [(.ref o0)])) t
    refine XS.aload X19.here hx rfl (hb hby d4_27) rfl rfl ?_
    exact k
  refine OFin.go S20 ?_
  have F21 := F_o0_upperSideband.other W4 (Or.inr (slot_ne (Or.inr (hw _ (List.mem_of_getElem? (i := 35) rfl))) (Or.inr (hw _ (List.mem_of_getElem? (i := 27) rfl))) (by decide) (t := (.object "com/example/cardbench/cardbench/Tone")) (t' := .int) (by decide) (by decide)))
  have F22 := F21.other W8 (Or.inr (slot_ne (Or.inr (hw _ (List.mem_of_getElem? (i := 35) rfl))) (Or.inr (hw _ (List.mem_of_getElem? (i := 29) rfl))) (by decide) (t := (.object "com/example/cardbench/cardbench/Tone")) (t' := .double) (by decide) (by decide)))
  have F23 := F22.other W13 (Or.inr (slot_ne (Or.inr (hw _ (List.mem_of_getElem? (i := 35) rfl))) (Or.inr (hw _ (List.mem_of_getElem? (i := 31) rfl))) (by decide) (t := (.object "com/example/cardbench/cardbench/Tone")) (t' := .int) (by decide) (by decide)))
  have F24 := F23.other W19 (Or.inr (slot_ne (Or.inr (hw _ (List.mem_of_getElem? (i := 35) rfl))) (Or.inr (hw _ (List.mem_of_getElem? (i := 33) rfl))) (by decide) (t := (.object "com/example/cardbench/cardbench/Tone")) (t' := (.object "com/example/cardbench/cardbench/Tone")) (by decide) (by decide)))
  have F25 := F18.wr W19
  obtain ⟨T26, h26, X26, e26, W26, st26⟩ := putF X19 hx hZ hown (host := "") (Or.inl (hw _ (List.mem_of_getElem? (i := 34) rfl))) Via.refl e19 F24 F25 (Or.inr ⟨(hw _ (List.mem_of_getElem? (i := 35) rfl)), rfl, hnm⟩) (hw _ (List.mem_of_getElem? (i := 19) rfl)) (ty := (.object "com/example/cardbench/cardbench/Tone")) (by decide) rfl rfl (g := (mkF m 29 #[.val (.ref o0), .val (.int xa), .val (.double xb), .second, .val (.int xc), .val (.ref o4), .val (.ref o5), .val (.ref o6)] [(.ref o5), (.ref o0)])) rfl rfl (hb hby d4_29)
  have Fw26 := F24.same W26
  have N26 := Fr.snoc X26 N19 ge0
  have Z26 : n0 ≤ h26.size := Nat.le_trans Z19 (wr_le W26)
  have K26 := Keep.wr K19 W26 (Or.inl (List.mem_of_getElem? (i := 0) rfl))
  refine OFin.go st26 ?_
  show OFin p e below _ (T26.setTop (mkF m 32 #[.val (.ref o0), .val (.int xa), .val (.double xb), .second, .val (.int xc), .val (.ref o4), .val (.ref o5), .val (.ref o6)] []))
  have S27 : ∀ t, Steps p.tables e below (T26.setTop (mkF m 35 #[.val (.ref o0), .val (.int xa), .val (.double xb), .second, .val (.int xc), .val (.ref o4), .val (.ref o5), .val (.ref o6)] [(.ref o6), (.ref o0)])) t → Steps p.tables e below (T26.setTop (mkF m 32 #[.val (.ref o0), .val (.int xa), .val (.double xb), .second, .val (.int xc), .val (.ref o4), .val (.ref o5), .val (.ref o6)] [])) t := by
    intro t k
    show Steps p.tables e below (T26.setTop (mkF m 32 #[.val (.ref o0), .val (.int xa), .val (.double xb), .second, .val (.int xc), .val (.ref o4), .val (.ref o5), .val (.ref o6)] [])) t
    refine XS.aloadN X26.here hx rfl (hb hby d4_32) rfl rfl ?_
    show Steps p.tables e below (T26.setTop (mkF m 33 #[.val (.ref o0), .val (.int xa), .val (.double xb), .second, .val (.int xc), .val (.ref o4), .val (.ref o5), .val (.ref o6)] [(.ref o0)])) t
    refine XS.aload X26.here hx rfl (hb hby d4_33) rfl rfl ?_
    exact k
  refine OFin.go S27 ?_
  have F28 := F_o0_lowerSideband.other W4 (Or.inr (slot_ne (Or.inr (hw _ (List.mem_of_getElem? (i := 37) rfl))) (Or.inr (hw _ (List.mem_of_getElem? (i := 27) rfl))) (by decide) (t := (.object "com/example/cardbench/cardbench/Tone")) (t' := .int) (by decide) (by decide)))
  have F29 := F28.other W8 (Or.inr (slot_ne (Or.inr (hw _ (List.mem_of_getElem? (i := 37) rfl))) (Or.inr (hw _ (List.mem_of_getElem? (i := 29) rfl))) (by decide) (t := (.object "com/example/cardbench/cardbench/Tone")) (t' := .double) (by decide) (by decide)))
  have F30 := F29.other W13 (Or.inr (slot_ne (Or.inr (hw _ (List.mem_of_getElem? (i := 37) rfl))) (Or.inr (hw _ (List.mem_of_getElem? (i := 31) rfl))) (by decide) (t := (.object "com/example/cardbench/cardbench/Tone")) (t' := .int) (by decide) (by decide)))
  have F31 := F30.other W19 (Or.inr (slot_ne (Or.inr (hw _ (List.mem_of_getElem? (i := 37) rfl))) (Or.inr (hw _ (List.mem_of_getElem? (i := 33) rfl))) (by decide) (t := (.object "com/example/cardbench/cardbench/Tone")) (t' := (.object "com/example/cardbench/cardbench/Tone")) (by decide) (by decide)))
  have F32 := F31.other W26 (Or.inr (slot_ne (Or.inr (hw _ (List.mem_of_getElem? (i := 37) rfl))) (Or.inr (hw _ (List.mem_of_getElem? (i := 35) rfl))) (by decide) (t := (.object "com/example/cardbench/cardbench/Tone")) (t' := (.object "com/example/cardbench/cardbench/Tone")) (by decide) (by decide)))
  have F33 := F25.wr W26
  obtain ⟨T34, h34, X34, e34, W34, st34⟩ := putF X26 hx hZ hown (host := "") (Or.inl (hw _ (List.mem_of_getElem? (i := 36) rfl))) Via.refl e26 F32 F33 (Or.inr ⟨(hw _ (List.mem_of_getElem? (i := 37) rfl)), rfl, hnm⟩) (hw _ (List.mem_of_getElem? (i := 19) rfl)) (ty := (.object "com/example/cardbench/cardbench/Tone")) (by decide) rfl rfl (g := (mkF m 35 #[.val (.ref o0), .val (.int xa), .val (.double xb), .second, .val (.int xc), .val (.ref o4), .val (.ref o5), .val (.ref o6)] [(.ref o6), (.ref o0)])) rfl rfl (hb hby d4_35)
  have Fw34 := F32.same W34
  have N34 := Fr.snoc X34 N26 ge0
  have Z34 : n0 ≤ h34.size := Nat.le_trans Z26 (wr_le W34)
  have K34 := Keep.wr K26 W34 (Or.inl (List.mem_of_getElem? (i := 0) rfl))
  refine OFin.go st34 ?_
  show OFin p e below _ (T34.setTop (mkF m 38 #[.val (.ref o0), .val (.int xa), .val (.double xb), .second, .val (.int xc), .val (.ref o4), .val (.ref o5), .val (.ref o6)] []))
  have F35 := Fw4.other W8 (Or.inr (slot_ne (Or.inr (hw _ (List.mem_of_getElem? (i := 27) rfl))) (Or.inr (hw _ (List.mem_of_getElem? (i := 29) rfl))) (by decide) (t := .int) (t' := .double) (by decide) (by decide)))
  have F36 := F35.other W13 (Or.inr (slot_ne (Or.inr (hw _ (List.mem_of_getElem? (i := 27) rfl))) (Or.inr (hw _ (List.mem_of_getElem? (i := 31) rfl))) (by decide) (t := .int) (t' := .int) (by decide) (by decide)))
  have F37 := F36.other W19 (Or.inr (slot_ne (Or.inr (hw _ (List.mem_of_getElem? (i := 27) rfl))) (Or.inr (hw _ (List.mem_of_getElem? (i := 33) rfl))) (by decide) (t := .int) (t' := (.object "com/example/cardbench/cardbench/Tone")) (by decide) (by decide)))
  have F38 := F37.other W26 (Or.inr (slot_ne (Or.inr (hw _ (List.mem_of_getElem? (i := 27) rfl))) (Or.inr (hw _ (List.mem_of_getElem? (i := 35) rfl))) (by decide) (t := .int) (t' := (.object "com/example/cardbench/cardbench/Tone")) (by decide) (by decide)))
  have F39 := F38.other W34 (Or.inr (slot_ne (Or.inr (hw _ (List.mem_of_getElem? (i := 27) rfl))) (Or.inr (hw _ (List.mem_of_getElem? (i := 37) rfl))) (by decide) (t := .int) (t' := (.object "com/example/cardbench/cardbench/Tone")) (by decide) (by decide)))
  have F40 := Fw8.other W13 (Or.inr (slot_ne (Or.inr (hw _ (List.mem_of_getElem? (i := 29) rfl))) (Or.inr (hw _ (List.mem_of_getElem? (i := 31) rfl))) (by decide) (t := .double) (t' := .int) (by decide) (by decide)))
  have F41 := F40.other W19 (Or.inr (slot_ne (Or.inr (hw _ (List.mem_of_getElem? (i := 29) rfl))) (Or.inr (hw _ (List.mem_of_getElem? (i := 33) rfl))) (by decide) (t := .double) (t' := (.object "com/example/cardbench/cardbench/Tone")) (by decide) (by decide)))
  have F42 := F41.other W26 (Or.inr (slot_ne (Or.inr (hw _ (List.mem_of_getElem? (i := 29) rfl))) (Or.inr (hw _ (List.mem_of_getElem? (i := 35) rfl))) (by decide) (t := .double) (t' := (.object "com/example/cardbench/cardbench/Tone")) (by decide) (by decide)))
  have F43 := F42.other W34 (Or.inr (slot_ne (Or.inr (hw _ (List.mem_of_getElem? (i := 29) rfl))) (Or.inr (hw _ (List.mem_of_getElem? (i := 37) rfl))) (by decide) (t := .double) (t' := (.object "com/example/cardbench/cardbench/Tone")) (by decide) (by decide)))
  have F44 := Fw13.other W19 (Or.inr (slot_ne (Or.inr (hw _ (List.mem_of_getElem? (i := 31) rfl))) (Or.inr (hw _ (List.mem_of_getElem? (i := 33) rfl))) (by decide) (t := .int) (t' := (.object "com/example/cardbench/cardbench/Tone")) (by decide) (by decide)))
  have F45 := F44.other W26 (Or.inr (slot_ne (Or.inr (hw _ (List.mem_of_getElem? (i := 31) rfl))) (Or.inr (hw _ (List.mem_of_getElem? (i := 35) rfl))) (by decide) (t := .int) (t' := (.object "com/example/cardbench/cardbench/Tone")) (by decide) (by decide)))
  have F46 := F45.other W34 (Or.inr (slot_ne (Or.inr (hw _ (List.mem_of_getElem? (i := 31) rfl))) (Or.inr (hw _ (List.mem_of_getElem? (i := 37) rfl))) (by decide) (t := .int) (t' := (.object "com/example/cardbench/cardbench/Tone")) (by decide) (by decide)))
  have F47 := Fw19.other W26 (Or.inr (slot_ne (Or.inr (hw _ (List.mem_of_getElem? (i := 33) rfl))) (Or.inr (hw _ (List.mem_of_getElem? (i := 35) rfl))) (by decide) (t := (.object "com/example/cardbench/cardbench/Tone")) (t' := (.object "com/example/cardbench/cardbench/Tone")) (by decide) (by decide)))
  have F48 := F47.other W34 (Or.inr (slot_ne (Or.inr (hw _ (List.mem_of_getElem? (i := 33) rfl))) (Or.inr (hw _ (List.mem_of_getElem? (i := 37) rfl))) (by decide) (t := (.object "com/example/cardbench/cardbench/Tone")) (t' := (.object "com/example/cardbench/cardbench/Tone")) (by decide) (by decide)))
  have F49 := Fw26.other W34 (Or.inr (slot_ne (Or.inr (hw _ (List.mem_of_getElem? (i := 35) rfl))) (Or.inr (hw _ (List.mem_of_getElem? (i := 37) rfl))) (by decide) (t := (.object "com/example/cardbench/cardbench/Tone")) (t' := (.object "com/example/cardbench/cardbench/Tone")) (by decide) (by decide)))
  exact finV X34 hx Bd.notSynchronized Bd.returns (hb hby d4_38) (by decide) (by decide) (by rw [e34]; exact ⟨rfl, N34, K34, F39, F43, F46, F48, F49, Fw34⟩)
theorem ef_rm6 (m : MethodId) (o0 : Addr) : entryFrame m #[(.ref o0)] 1 = mkF m 0 #[.val (.ref o0)] [] := by first | (simp [entryFrame, mkF, argsToLocals, Value.category]; done) | rfl
def Q_rm6 (Z : State) (o0 : Addr) (x : UInt64) (h0 : Heap) (n0 : Nat) (v : Option Value) (h : Heap) (L : List Loc) : Prop := v = some (.double x) ∧ Fr n0 L ∧ h = h0
theorem d6_0 : decode prog_45_method_6_code 0 = .ok (.aload_n 0, 1) := by decide +kernel
theorem d6_1 : decode prog_45_method_6_code 1 = .ok (.getfield 7, 3) := by decide +kernel
theorem d6_4 : decode prog_45_method_6_code 4 = .ok (.dreturn, 1) := by decide +kernel
set_option maxRecDepth 65536 in
set_option maxHeartbeats 40000000 in
theorem rm6 (l : Launch) (Z : State) (a0 : Array Value) (hw : ∀ d ∈ tables_1, d.before a0 Z = true) (ws : List Jvm.Cond) (o0 : Addr) (x : UInt64) (h0 : Heap) (n0 : Nat) (Z0 : n0 ≤ h0.size) (F_o0_amplitude : Fld Z h0 o0 "com/example/cardbench/cardbench/Tone" "amplitude" "D" (.double x)) :
    MetFree l (⟨"com/example/cardbench/cardbench/Tone", "amplitude", "()D"⟩ : MethodName) (head1 (Jvm.Cond.code (⟨"com/example/cardbench/cardbench/Tone", "amplitude", "()D"⟩ : MethodName) prog_45_method_6_code 1 (some .double) :: ws) ({ frames := 0, cells := 0, slots := 0, locals := 0 } : Room)) (fun a U => a = #[(.ref o0)] ∧ Z.Warmed39 U.vm ∧ U.heap = h0) (fun _ _ _ _ _ => True) (fun _ U o U' => ∃ v L, o = .returned v ∧ (Q_rm6 Z o0 x h0 n0) v U'.heap L ∧ FrameEnd U o U' L ({ frames := 0, cells := 0, slots := 0, locals := 0 } : Room).cells ({ frames := 0, cells := 0, slots := 0, locals := 0 } : Room).slots) := by
  refine MetFree.of_bodySF (plainFor_of_name pn_1) hisR ?_
  intro p e s m args below meth c s₁ Bd hml0 hP hK
  obtain ⟨rfl, hZ, hh⟩ := hP
  have hx := Bd.exec
  have hby := Bd.bytes
  have hml : c.maxLocals = 1 := hml0
  have hown : s.vm.findClass "com/example/cardbench/cardbench/Tone" = some m.cls := findClass_of_methodNamed Bd.named
  have hnm := (name_of_methodNamed Bd.named Bd.method).1
  have X0 : Stand p l e ({ frames := 0, cells := 0, slots := 0, locals := 0 } : Room) s m #[(.ref o0)] below meth c s₁ [] 0 0 := Stand.of_body Bd
  have e0 : s₁.heap = h0 := by rw [← hh, Bd.state]; rfl
  have N0 := Fr.nil n0
  show OFin p e below (ORet (Q_rm6 Z o0 x h0 n0) s ({ frames := 0, cells := 0, slots := 0, locals := 0 } : Room).cells ({ frames := 0, cells := 0, slots := 0, locals := 0 } : Room).slots) (s₁.setTop (entryFrame m #[(.ref o0)] 1))
  refine OFin.go (fun t k => castTop (ef_rm6 m o0) k) ?_
  show OFin p e below (ORet (Q_rm6 Z o0 x h0 n0) s ({ frames := 0, cells := 0, slots := 0, locals := 0 } : Room).cells ({ frames := 0, cells := 0, slots := 0, locals := 0 } : Room).slots) (s₁.setTop (mkF m 0 #[.val (.ref o0)] []))
  have S1 : ∀ t, Steps p.tables e below (s₁.setTop (mkF m 1 #[.val (.ref o0)] [(.ref o0)])) t → Steps p.tables e below (s₁.setTop (mkF m 0 #[.val (.ref o0)] [])) t := by
    intro t k
    show Steps p.tables e below (s₁.setTop (mkF m 0 #[.val (.ref o0)] [])) t
    refine XS.aloadN X0.here hx rfl (hb hby d6_0) rfl rfl ?_
    exact k
  refine OFin.go S1 ?_
  obtain ⟨T2, X2, e2, st2⟩ := getF X0 hx hZ hown (host := "") (Or.inl (hw _ (List.mem_of_getElem? (i := 14) rfl))) Via.refl e0 F_o0_amplitude (g := (mkF m 1 #[.val (.ref o0)] [(.ref o0)])) rfl rfl (hb hby d6_1)
  refine OFin.go st2 ?_
  show OFin p e below _ (T2.setTop (mkF m 4 #[.val (.ref o0)] [(.double x)]))
  exact finD X2 hx Bd.notSynchronized Bd.returns (hb hby d6_4) (by decide) (by decide) (⟨rfl, N0, e2⟩)
def fPass (x y z : UInt64) : Int32 := bi (¬ ((cmpValue (FP.dcmp x z) .l) < (0 : Int32)) ∧ ¬ ((cmpValue (FP.dcmp y z) .l) < (0 : Int32)))
theorem ef_rm5 (m : MethodId) (o0 : Addr) (z : UInt64) : entryFrame m #[(.ref o0), (.double z)] 3 = mkF m 0 #[.val (.ref o0), .val (.double z), .second] [] := by first | (simp [entryFrame, mkF, argsToLocals, Value.category]; done) | rfl
def Q_rm5 (Z : State) (o0 : Addr) (z : UInt64) (up lo : Addr) (x y : UInt64) (h0 : Heap) (n0 : Nat) (v : Option Value) (h : Heap) (L : List Loc) : Prop := v = some (.int (fPass x y z)) ∧ Fr n0 L ∧ h = h0
theorem d5_0 : decode prog_23_method_2_code 0 = .ok (.aload_n 0, 1) := by decide +kernel
theorem d5_1 : decode prog_23_method_2_code 1 = .ok (.getfield 24, 3) := by decide +kernel
theorem pd_1 : parseMethodDescriptor "()D" = some ⟨[], some .double⟩ := by decide +kernel
theorem d5_4 : decode prog_23_method_2_code 4 = .ok (.invokevirtual 30, 3) := by decide +kernel
theorem d5_7 : decode prog_23_method_2_code 7 = .ok (.dload_n 1, 1) := by decide +kernel
theorem d5_8 : decode prog_23_method_2_code 8 = .ok (.dcmp .l, 1) := by decide +kernel
theorem d5_9 : decode prog_23_method_2_code 9 = .ok (.ifCond .lt 19, 3) := by decide +kernel
theorem d5_28 : decode prog_23_method_2_code 28 = .ok (.iconst 0, 1) := by decide +kernel
theorem d5_29 : decode prog_23_method_2_code 29 = .ok (.ireturn, 1) := by decide +kernel
theorem d5_12 : decode prog_23_method_2_code 12 = .ok (.aload_n 0, 1) := by decide +kernel
theorem d5_13 : decode prog_23_method_2_code 13 = .ok (.getfield 27, 3) := by decide +kernel
theorem d5_16 : decode prog_23_method_2_code 16 = .ok (.invokevirtual 30, 3) := by decide +kernel
theorem d5_19 : decode prog_23_method_2_code 19 = .ok (.dload_n 1, 1) := by decide +kernel
theorem d5_20 : decode prog_23_method_2_code 20 = .ok (.dcmp .l, 1) := by decide +kernel
theorem d5_21 : decode prog_23_method_2_code 21 = .ok (.ifCond .lt 7, 3) := by decide +kernel
theorem d5_24 : decode prog_23_method_2_code 24 = .ok (.iconst 1, 1) := by decide +kernel
theorem d5_25 : decode prog_23_method_2_code 25 = .ok (.goto 4, 3) := by decide +kernel
set_option maxRecDepth 65536 in
set_option maxHeartbeats 40000000 in
theorem rm5 (l : Launch) (Z : State) (a0 : Array Value) (hw : ∀ d ∈ tables_1, d.before a0 Z = true) (ws : List Jvm.Cond) (o0 : Addr) (z : UInt64) (up lo : Addr) (x y : UInt64) (h0 : Heap) (n0 : Nat) (Z0 : n0 ≤ h0.size) (F_o0_upperSideband : Fld Z h0 o0 "com/example/cardbench/cardbench/LoadModulation$Result" "upperSideband" "Lcom/example/cardbench/cardbench/Tone;" (.ref up)) (F_o0_lowerSideband : Fld Z h0 o0 "com/example/cardbench/cardbench/LoadModulation$Result" "lowerSideband" "Lcom/example/cardbench/cardbench/Tone;" (.ref lo)) (E_up : Exa Z h0 up "com/example/cardbench/cardbench/Tone") (F_up_amplitude : Fld Z h0 up "com/example/cardbench/cardbench/Tone" "amplitude" "D" (.double x)) (E_lo : Exa Z h0 lo "com/example/cardbench/cardbench/Tone") (F_lo_amplitude : Fld Z h0 lo "com/example/cardbench/cardbench/Tone" "amplitude" "D" (.double y)) :
    MetFree l (⟨"com/example/cardbench/cardbench/LoadModulation$Result", "passes", "(D)Z"⟩ : MethodName) (head1 (Jvm.Cond.code (⟨"com/example/cardbench/cardbench/LoadModulation$Result", "passes", "(D)Z"⟩ : MethodName) prog_23_method_2_code 3 (some .boolean) :: ws) ({ frames := 1, cells := 0, slots := 0, locals := 14 } : Room)) (fun a U => a = #[(.ref o0), (.double z)] ∧ Z.Warmed39 U.vm ∧ U.heap = h0) (fun _ _ _ _ _ => True) (fun _ U o U' => ∃ v L, o = .returned v ∧ (Q_rm5 Z o0 z up lo x y h0 n0) v U'.heap L ∧ FrameEnd U o U' L ({ frames := 1, cells := 0, slots := 0, locals := 14 } : Room).cells ({ frames := 1, cells := 0, slots := 0, locals := 14 } : Room).slots) := by
  refine MetFree.of_bodySF (plainFor_of_name pn_2) hisR ?_
  intro p e s m args below meth c s₁ Bd hml0 hP hK
  obtain ⟨rfl, hZ, hh⟩ := hP
  have hx := Bd.exec
  have hby := Bd.bytes
  have hml : c.maxLocals = 3 := hml0
  have hown : s.vm.findClass "com/example/cardbench/cardbench/LoadModulation$Result" = some m.cls := findClass_of_methodNamed Bd.named
  have hnm := (name_of_methodNamed Bd.named Bd.method).1
  have X0 : Stand p l e ({ frames := 1, cells := 0, slots := 0, locals := 14 } : Room) s m #[(.ref o0), (.double z)] below meth c s₁ [] 0 0 := Stand.of_body Bd
  have e0 : s₁.heap = h0 := by rw [← hh, Bd.state]; rfl
  have N0 := Fr.nil n0
  show OFin p e below (ORet (Q_rm5 Z o0 z up lo x y h0 n0) s ({ frames := 1, cells := 0, slots := 0, locals := 14 } : Room).cells ({ frames := 1, cells := 0, slots := 0, locals := 14 } : Room).slots) (s₁.setTop (entryFrame m #[(.ref o0), (.double z)] 3))
  refine OFin.go (fun t k => castTop (ef_rm5 m o0 z) k) ?_
  show OFin p e below (ORet (Q_rm5 Z o0 z up lo x y h0 n0) s ({ frames := 1, cells := 0, slots := 0, locals := 14 } : Room).cells ({ frames := 1, cells := 0, slots := 0, locals := 14 } : Room).slots) (s₁.setTop (mkF m 0 #[.val (.ref o0), .val (.double z), .second] []))
  have S1 : ∀ t, Steps p.tables e below (s₁.setTop (mkF m 1 #[.val (.ref o0), .val (.double z), .second] [(.ref o0)])) t → Steps p.tables e below (s₁.setTop (mkF m 0 #[.val (.ref o0), .val (.double z), .second] [])) t := by
    intro t k
    show Steps p.tables e below (s₁.setTop (mkF m 0 #[.val (.ref o0), .val (.double z), .second] [])) t
    refine XS.aloadN X0.here hx rfl (hb hby d5_0) rfl rfl ?_
    exact k
  refine OFin.go S1 ?_
  obtain ⟨T2, X2, e2, st2⟩ := getF X0 hx hZ hown (host := "") (Or.inl (hw _ (List.mem_of_getElem? (i := 34) rfl))) Via.refl e0 F_o0_upperSideband (g := (mkF m 1 #[.val (.ref o0), .val (.double z), .second] [(.ref o0)])) rfl rfl (hb hby d5_1)
  refine OFin.go st2 ?_
  show OFin p e below _ (T2.setTop (mkF m 4 #[.val (.ref o0), .val (.double z), .second] [(.ref up)]))
  obtain ⟨_, T3, Lc3, X3, hQ3, st3⟩ := virtQ X2 hx hZ (y := (⟨"com/example/cardbench/cardbench/Tone", "amplitude", "()D"⟩ : MethodName)) hown (hw _ (List.mem_of_getElem? (i := 43) rfl)) (hw _ (List.mem_of_getElem? (i := 45) rfl)) (hw _ (List.mem_of_getElem? (i := 2) rfl)) (hw _ (List.mem_of_getElem? (i := 47) rfl)) (hw _ (List.mem_of_getElem? (i := 44) rfl)) (hw _ (List.mem_of_getElem? (i := 46) rfl)) (by decide) E_up (argsL := []) (rest := []) (rm6 l Z a0 hw [] up x h0 n0 Z0 F_up_amplitude) (W := 0) (by decide) (by decide) e2 (g := (mkF m 4 #[.val (.ref o0), .val (.double z), .second] [(.ref up)])) rfl (by rw [hml]; rfl) (lenOf pd_1 rfl) rfl (by show 2 * 0 + _ ≤ _; exact Nat.le_of_eq rfl) (hb hby d5_4) (Nat.le_of_ble_eq_true rfl) (Nat.le_of_ble_eq_true rfl)
  obtain ⟨rfl, N3q, e3⟩ := hQ3
  have N3 := Fr.app N0 N3q
  refine OFin.go st3 ?_
  show OFin p e below _ (T3.setTop (mkF m 7 #[.val (.ref o0), .val (.double z), .second] [(.double x)]))
  have S4 : ∀ t, Steps p.tables e below (T3.setTop (mkF m 9 #[.val (.ref o0), .val (.double z), .second] [(.int (cmpValue (FP.dcmp x z) .l))])) t → Steps p.tables e below (T3.setTop (mkF m 7 #[.val (.ref o0), .val (.double z), .second] [(.double x)])) t := by
    intro t k
    show Steps p.tables e below (T3.setTop (mkF m 7 #[.val (.ref o0), .val (.double z), .second] [(.double x)])) t
    refine XS.dloadN X3.here hx rfl (hb hby d5_7) rfl ?_
    show Steps p.tables e below (T3.setTop (mkF m 8 #[.val (.ref o0), .val (.double z), .second] [(.double z), (.double x)])) t
    refine XS.dcmpS X3.here hx rfl (hb hby d5_8) rfl rfl ?_
    exact k
  refine OFin.go S4 ?_
  by_cases h5 : ((cmpValue (FP.dcmp x z) .l) < (0 : Int32))
  · -- pc 9: ((cmpValue (FP.dcmp x z) .l) < (0 : Int32))
    have S6 : ∀ t, Steps p.tables e below (T3.setTop (mkF m 28 #[.val (.ref o0), .val (.double z), .second] [])) t → Steps p.tables e below (T3.setTop (mkF m 9 #[.val (.ref o0), .val (.double z), .second] [(.int (cmpValue (FP.dcmp x z) .l))])) t := by
      intro t k
      show Steps p.tables e below (T3.setTop (mkF m 9 #[.val (.ref o0), .val (.double z), .second] [(.int (cmpValue (FP.dcmp x z) .l))])) t
      refine XS.ifYes X3.here hx rfl (pc0 := 9) (pc' := 28) rfl (hb hby d5_9) rfl ((if0 _ _).trans (tlt h5).1) (by decide) (by decide) ?_
      exact k
    refine OFin.go S6 ?_
    have S7 : ∀ t, Steps p.tables e below (T3.setTop (mkF m 29 #[.val (.ref o0), .val (.double z), .second] [(.int (0 : Int32))])) t → Steps p.tables e below (T3.setTop (mkF m 28 #[.val (.ref o0), .val (.double z), .second] [])) t := by
      intro t k
      show Steps p.tables e below (T3.setTop (mkF m 28 #[.val (.ref o0), .val (.double z), .second] [])) t
      refine XS.iconst X3.here hx rfl (hb hby d5_28) ?_
      exact k
    refine OFin.go S7 ?_
    exact finZ X3 hx Bd.notSynchronized (t := .boolean) Bd.returns (by simp) (hb hby d5_29) rfl (by decide) (by decide) (⟨congrArg (fun (q : Int32) => some (Value.int q)) (show (0 : Int32) = fPass x y z by unfold fPass; exact (bi_f (fun q => q.1 h5)).symm), N3, e3⟩)
  · -- pc 9: not ((cmpValue (FP.dcmp x z) .l) < (0 : Int32))
    have S8 : ∀ t, Steps p.tables e below (T3.setTop (mkF m 12 #[.val (.ref o0), .val (.double z), .second] [])) t → Steps p.tables e below (T3.setTop (mkF m 9 #[.val (.ref o0), .val (.double z), .second] [(.int (cmpValue (FP.dcmp x z) .l))])) t := by
      intro t k
      show Steps p.tables e below (T3.setTop (mkF m 9 #[.val (.ref o0), .val (.double z), .second] [(.int (cmpValue (FP.dcmp x z) .l))])) t
      refine XS.ifNo X3.here hx rfl (hb hby d5_9) rfl ((if0 _ _).trans (flt h5).1) ?_
      exact k
    refine OFin.go S8 ?_
    have S9 : ∀ t, Steps p.tables e below (T3.setTop (mkF m 13 #[.val (.ref o0), .val (.double z), .second] [(.ref o0)])) t → Steps p.tables e below (T3.setTop (mkF m 12 #[.val (.ref o0), .val (.double z), .second] [])) t := by
      intro t k
      show Steps p.tables e below (T3.setTop (mkF m 12 #[.val (.ref o0), .val (.double z), .second] [])) t
      refine XS.aloadN X3.here hx rfl (hb hby d5_12) rfl rfl ?_
      exact k
    refine OFin.go S9 ?_
    obtain ⟨T10, X10, e10, st10⟩ := getF X3 hx hZ hown (host := "") (Or.inl (hw _ (List.mem_of_getElem? (i := 36) rfl))) Via.refl e3 F_o0_lowerSideband (g := (mkF m 13 #[.val (.ref o0), .val (.double z), .second] [(.ref o0)])) rfl rfl (hb hby d5_13)
    refine OFin.go st10 ?_
    show OFin p e below _ (T10.setTop (mkF m 16 #[.val (.ref o0), .val (.double z), .second] [(.ref lo)]))
    obtain ⟨_, T11, Lc11, X11, hQ11, st11⟩ := virtQ X10 hx hZ (y := (⟨"com/example/cardbench/cardbench/Tone", "amplitude", "()D"⟩ : MethodName)) hown (hw _ (List.mem_of_getElem? (i := 43) rfl)) (hw _ (List.mem_of_getElem? (i := 45) rfl)) (hw _ (List.mem_of_getElem? (i := 2) rfl)) (hw _ (List.mem_of_getElem? (i := 47) rfl)) (hw _ (List.mem_of_getElem? (i := 44) rfl)) (hw _ (List.mem_of_getElem? (i := 46) rfl)) (by decide) E_lo (argsL := []) (rest := []) (rm6 l Z a0 hw [] lo y h0 n0 Z0 F_lo_amplitude) (W := 0) (by decide) (by decide) e10 (g := (mkF m 16 #[.val (.ref o0), .val (.double z), .second] [(.ref lo)])) rfl (by rw [hml]; rfl) (lenOf pd_1 rfl) rfl (by show 2 * 0 + _ ≤ _; exact Nat.le_of_eq rfl) (hb hby d5_16) (Nat.le_of_ble_eq_true rfl) (Nat.le_of_ble_eq_true rfl)
    obtain ⟨rfl, N11q, e11⟩ := hQ11
    have N11 := Fr.app N3 N11q
    refine OFin.go st11 ?_
    show OFin p e below _ (T11.setTop (mkF m 19 #[.val (.ref o0), .val (.double z), .second] [(.double y)]))
    have S12 : ∀ t, Steps p.tables e below (T11.setTop (mkF m 21 #[.val (.ref o0), .val (.double z), .second] [(.int (cmpValue (FP.dcmp y z) .l))])) t → Steps p.tables e below (T11.setTop (mkF m 19 #[.val (.ref o0), .val (.double z), .second] [(.double y)])) t := by
      intro t k
      show Steps p.tables e below (T11.setTop (mkF m 19 #[.val (.ref o0), .val (.double z), .second] [(.double y)])) t
      refine XS.dloadN X11.here hx rfl (hb hby d5_19) rfl ?_
      show Steps p.tables e below (T11.setTop (mkF m 20 #[.val (.ref o0), .val (.double z), .second] [(.double z), (.double y)])) t
      refine XS.dcmpS X11.here hx rfl (hb hby d5_20) rfl rfl ?_
      exact k
    refine OFin.go S12 ?_
    have J13 : ∀ t, Steps p.tables e below (T11.setTop (mkF m 29 #[.val (.ref o0), .val (.double z), .second] [(.int (bi (¬ ((cmpValue (FP.dcmp y z) .l) < (0 : Int32)))))])) t → Steps p.tables e below (T11.setTop (mkF m 21 #[.val (.ref o0), .val (.double z), .second] [(.int (cmpValue (FP.dcmp y z) .l))])) t := by
      intro t k
      show Steps p.tables e below (T11.setTop (mkF m 21 #[.val (.ref o0), .val (.double z), .second] [(.int (cmpValue (FP.dcmp y z) .l))])) t
      by_cases h14 : ((cmpValue (FP.dcmp y z) .l) < (0 : Int32))
      · refine XS.ifYes X11.here hx rfl (pc0 := 21) (pc' := 28) rfl (hb hby d5_21) rfl ((if0 _ _).trans (tlt h14).1) (by decide) (by decide) ?_
        show Steps p.tables e below (T11.setTop (mkF m 28 #[.val (.ref o0), .val (.double z), .second] [])) t
        refine XS.iconst X11.here hx rfl (hb hby d5_28) ?_
        show Steps p.tables e below (T11.setTop (mkF m 29 #[.val (.ref o0), .val (.double z), .second] [(.int (0 : Int32))])) t
        exact (castTop (congrArg (fun zq_ => (mkF m 29 #[.val (.ref o0), .val (.double z), .second] [(.int zq_)])) (bi_f (fun q => q h14)).symm) k)
      · refine XS.ifNo X11.here hx rfl (hb hby d5_21) rfl ((if0 _ _).trans (flt h14).1) ?_
        show Steps p.tables e below (T11.setTop (mkF m 24 #[.val (.ref o0), .val (.double z), .second] [])) t
        refine XS.iconst X11.here hx rfl (hb hby d5_24) ?_
        show Steps p.tables e below (T11.setTop (mkF m 25 #[.val (.ref o0), .val (.double z), .second] [(.int (1 : Int32))])) t
        refine XS.goto X11.here hx rfl (pc0 := 25) (pc' := 29) rfl (hb hby d5_25) (by decide) (by decide) ?_
        show Steps p.tables e below (T11.setTop (mkF m 29 #[.val (.ref o0), .val (.double z), .second] [(.int (1 : Int32))])) t
        exact (castTop (congrArg (fun zq_ => (mkF m 29 #[.val (.ref o0), .val (.double z), .second] [(.int zq_)])) (bi_t h14).symm) k)
    refine OFin.go J13 ?_
    exact finZ X11 hx Bd.notSynchronized (t := .boolean) Bd.returns (by simp) (hb hby d5_29) (nar_bi _) (by decide) (by decide) (⟨congrArg (fun (q : Int32) => some (Value.int q)) (show (bi (¬ ((cmpValue (FP.dcmp y z) .l) < (0 : Int32)))) = fPass x y z by unfold fPass; exact bi_iff.mpr ⟨fun q => ⟨h5, q⟩, fun q => q.2⟩), N11, e11⟩)
theorem own_53 (a : Int32) : B53 a.toInt64 := by
  have h1 := a.toInt_lt; have h2 := a.le_toInt
  unfold B53
  rw [c_i2l]
  omega
theorem own_cmp (a b : Int32) : (cmpValue (FP.dcmp (FP.i2d a) (FP.i2d b)) .l) < (0 : Int32) ↔ a < b := by
  rw [i2d_w, i2d_w, dcmpV_w (own_53 a) (own_53 b), lw_lt, Int64.lt_iff_toInt_lt, Int32.lt_iff_toInt_lt, c_i2l, c_i2l]
theorem own_law (u0 u1 u2 : Int32) : (fPass (FP.i2d u0) (FP.i2d u1) (FP.i2d u2)) = (bi (¬ (u0 < u2) ∧ (¬ (u1 < u2)))) := by
  unfold fPass
  rw [bi_iff, own_cmp, own_cmp]
theorem ef_rm0 (m : MethodId) (u0 : Int32) (u1 : Int32) (u2 : Int32) (u3 : Int32) (u4 : Int32) (u5 : Int32) : entryFrame m #[(.int u0), (.int u1), (.int u2), (.int u3), (.int u4), (.int u5)] maxLocals = mkF m 0 #[.val (.int u0), .val (.int u1), .val (.int u2), .val (.int u3), .val (.int u4), .val (.int u5), .unset, .unset, .unset, .unset, .unset] [] := by first | (simp [entryFrame, mkF, argsToLocals, Value.category, maxLocals]; done) | rfl
theorem pn_3 : plainName "com/example/cardbench/cardbench/LoadModulationPassesPinLaw" = true := by first | (simp [plainName, overriddenIn]; done) | decide +kernel
def Q_rm0 (Z : State) (u0 : Int32) (u1 : Int32) (u2 : Int32) (u3 : Int32) (u4 : Int32) (u5 : Int32)  (h0 : Heap) (n0 : Nat) (v : Option Value) (h : Heap) (L : List Loc) : Prop := v = some (.int (1 : Int32)) ∧ Fr n0 L
theorem pd_2 : parseMethodDescriptor "(DD)V" = some ⟨[.double, .double], none⟩ := by decide +kernel
theorem pd_3 : parseMethodDescriptor "(IDILcom/example/cardbench/cardbench/Tone;Lcom/example/cardbench/cardbench/Tone;Lcom/example/cardbench/cardbench/Tone;)V" = some ⟨[.int, .double, .int, (.object "com/example/cardbench/cardbench/Tone"), (.object "com/example/cardbench/cardbench/Tone"), (.object "com/example/cardbench/cardbench/Tone")], none⟩ := by decide +kernel
theorem pd_4 : parseMethodDescriptor "(D)Z" = some ⟨[.double], some .boolean⟩ := by decide +kernel
set_option maxRecDepth 65536 in
set_option maxHeartbeats 40000000 in
theorem rm0 (l : Launch) (Z : State) (a0 : Array Value) (hw : ∀ d ∈ tables_1, d.before a0 Z = true) (ws : List Jvm.Cond) (u0 : Int32) (u1 : Int32) (u2 : Int32) (u3 : Int32) (u4 : Int32) (u5 : Int32)  (h0 : Heap) (n0 : Nat) (Z0 : n0 ≤ h0.size)  :
    MetFree l x (head1 (Jvm.Cond.code x code maxLocals ret :: ws) room_1) (fun a U => a = #[(.int u0), (.int u1), (.int u2), (.int u3), (.int u4), (.int u5)] ∧ Z.Warmed39 U.vm ∧ U.heap = h0) (fun _ _ _ _ _ => True) (fun _ U o U' => ∃ v L, o = .returned v ∧ (Q_rm0 Z u0 u1 u2 u3 u4 u5 h0 n0) v U'.heap L ∧ FrameEnd U o U' L 16 128) := by
  refine MetFree.of_bodySF (plainFor_of_name pn_3) hisR ?_
  intro p e s m args below meth c s₁ Bd hml0 hP hK
  obtain ⟨rfl, hZ, hh⟩ := hP
  have hx := Bd.exec
  have hby := Bd.bytes
  have hml : c.maxLocals = 11 := hml0
  have hown : s.vm.findClass "com/example/cardbench/cardbench/LoadModulationPassesPinLaw" = some m.cls := findClass_of_methodNamed Bd.named
  have hnm := (name_of_methodNamed Bd.named Bd.method).1
  have X0 : Stand p l e room_1 s m #[(.int u0), (.int u1), (.int u2), (.int u3), (.int u4), (.int u5)] below meth c s₁ [] 0 0 := Stand.of_body Bd
  have e0 : s₁.heap = h0 := by rw [← hh, Bd.state]; rfl
  have N0 := Fr.nil n0
  show OFin p e below (ORet (Q_rm0 Z u0 u1 u2 u3 u4 u5 h0 n0) s 16 128) (s₁.setTop (entryFrame m #[(.int u0), (.int u1), (.int u2), (.int u3), (.int u4), (.int u5)] maxLocals))
  refine OFin.go (fun t k => castTop (ef_rm0 m u0 u1 u2 u3 u4 u5) k) ?_
  show OFin p e below (ORet (Q_rm0 Z u0 u1 u2 u3 u4 u5 h0 n0) s 16 128) (s₁.setTop (mkF m 0 #[.val (.int u0), .val (.int u1), .val (.int u2), .val (.int u3), .val (.int u4), .val (.int u5), .unset, .unset, .unset, .unset, .unset] []))
  obtain ⟨T1, h1, X1, e1, E1, A1, D1, -, st1⟩ := newO X0 hx hZ hown (hw _ (List.mem_of_getElem? (i := 0) rfl)) (hw _ (List.mem_of_getElem? (i := 1) rfl)) (hw _ (List.mem_of_getElem? (i := 2) rfl)) e0 (g := (mkF m 0 #[.val (.int u0), .val (.int u1), .val (.int u2), .val (.int u3), .val (.int u4), .val (.int u5), .unset, .unset, .unset, .unset, .unset] [])) rfl (hb hby at_0) (Nat.le_of_ble_eq_true rfl) (Nat.le_of_ble_eq_true rfl)
  obtain ⟨b1, g1⟩ : ∃ z, z = h0.size := ⟨_, rfl⟩
  rw [← g1] at A1 D1 st1
  have ge1 : n0 ≤ b1 := Nat.le_trans Z0 (Nat.le_of_eq g1.symm)
  have Z1 : n0 ≤ h1.size := Nat.le_trans Z0 E1.1
  have F1_amplitude : Fld Z h1 b1 "com/example/cardbench/cardbench/Tone" "amplitude" "D" (.double (0 : UInt64)) := D1 (Or.inr (hw _ (List.mem_of_getElem? (i := 15) rfl))) (ty := .double) (by decide)
  have F1_phase : Fld Z h1 b1 "com/example/cardbench/cardbench/Tone" "phase" "D" (.double (0 : UInt64)) := D1 (Or.inr (hw _ (List.mem_of_getElem? (i := 17) rfl))) (ty := .double) (by decide)
  refine OFin.go st1 ?_
  show OFin p e below _ (T1.setTop (mkF m 3 #[.val (.int u0), .val (.int u1), .val (.int u2), .val (.int u3), .val (.int u4), .val (.int u5), .unset, .unset, .unset, .unset, .unset] [(.ref b1)]))
  have S2 : ∀ t, Steps p.tables e below (T1.setTop (mkF m 9 #[.val (.int u0), .val (.int u1), .val (.int u2), .val (.int u3), .val (.int u4), .val (.int u5), .unset, .unset, .unset, .unset, .unset] [(.double (FP.i2d u4)), (.double (FP.i2d u3)), (.ref b1), (.ref b1)])) t → Steps p.tables e below (T1.setTop (mkF m 3 #[.val (.int u0), .val (.int u1), .val (.int u2), .val (.int u3), .val (.int u4), .val (.int u5), .unset, .unset, .unset, .unset, .unset] [(.ref b1)])) t := by
    intro t k
    show Steps p.tables e below (T1.setTop (mkF m 3 #[.val (.int u0), .val (.int u1), .val (.int u2), .val (.int u3), .val (.int u4), .val (.int u5), .unset, .unset, .unset, .unset, .unset] [(.ref b1)])) t
    refine XS.dup X1.here hx rfl (hb hby at_3) rfl rfl ?_
    show Steps p.tables e below (T1.setTop (mkF m 4 #[.val (.int u0), .val (.int u1), .val (.int u2), .val (.int u3), .val (.int u4), .val (.int u5), .unset, .unset, .unset, .unset, .unset] [(.ref b1), (.ref b1)])) t
    refine XS.iloadN X1.here hx rfl (hb hby at_4) rfl ?_
    show Steps p.tables e below (T1.setTop (mkF m 5 #[.val (.int u0), .val (.int u1), .val (.int u2), .val (.int u3), .val (.int u4), .val (.int u5), .unset, .unset, .unset, .unset, .unset] [(.int u3), (.ref b1), (.ref b1)])) t
    refine XS.i2dS X1.here hx rfl (hb hby at_5) rfl rfl ?_
    show Steps p.tables e below (T1.setTop (mkF m 6 #[.val (.int u0), .val (.int u1), .val (.int u2), .val (.int u3), .val (.int u4), .val (.int u5), .unset, .unset, .unset, .unset, .unset] [(.double (FP.i2d u3)), (.ref b1), (.ref b1)])) t
    refine XS.iload X1.here hx rfl (hb hby at_6) rfl ?_
    show Steps p.tables e below (T1.setTop (mkF m 8 #[.val (.int u0), .val (.int u1), .val (.int u2), .val (.int u3), .val (.int u4), .val (.int u5), .unset, .unset, .unset, .unset, .unset] [(.int u4), (.double (FP.i2d u3)), (.ref b1), (.ref b1)])) t
    refine XS.i2dS X1.here hx rfl (hb hby at_8) rfl rfl ?_
    exact k
  refine OFin.go S2 ?_
  obtain ⟨_, T3, Lc3, X3, hQ3, st3⟩ := specQ X1 hx hZ (y := (⟨"com/example/cardbench/cardbench/Tone", "<init>", "(DD)V"⟩ : MethodName)) rfl hown (hw _ (List.mem_of_getElem? (i := 3) rfl)) (hw _ (List.mem_of_getElem? (i := 4) rfl)) (hw _ (List.mem_of_getElem? (i := 2) rfl)) (hw _ (List.mem_of_getElem? (i := 5) rfl)) (by decide) (a := b1) (argsL := [(.double (FP.i2d u3)), (.double (FP.i2d u4))]) (rest := [(.ref b1)]) (rm1 l Z a0 hw [] b1 (FP.i2d u3) (FP.i2d u4) h1 n0 Z1 ge1 A1 F1_amplitude F1_phase) (W := 1) (by decide) (by decide) e1 (g := (mkF m 9 #[.val (.int u0), .val (.int u1), .val (.int u2), .val (.int u3), .val (.int u4), .val (.int u5), .unset, .unset, .unset, .unset, .unset] [(.double (FP.i2d u4)), (.double (FP.i2d u3)), (.ref b1), (.ref b1)])) rfl (by rw [hml]; rfl) (lenOf pd_2 rfl) rfl (by show 2 * 0 + _ ≤ _; exact Nat.le_of_eq rfl) (hb hby at_9) (Nat.le_of_ble_eq_true rfl) (Nat.le_of_ble_eq_true rfl)
  obtain ⟨rfl, N3q, K3q, F3_amplitude, F3_phase⟩ := hQ3
  have Z3 : n0 ≤ T3.heap.size := Nat.le_trans Z1 K3q.1
  have N3 := Fr.app N0 N3q
  refine OFin.go st3 ?_
  show OFin p e below _ (T3.setTop (mkF m 12 #[.val (.int u0), .val (.int u1), .val (.int u2), .val (.int u3), .val (.int u4), .val (.int u5), .unset, .unset, .unset, .unset, .unset] [(.ref b1)]))
  have S4 : ∀ t, Steps p.tables e below (T3.setTop (mkF m 14 #[.val (.int u0), .val (.int u1), .val (.int u2), .val (.int u3), .val (.int u4), .val (.int u5), .val (.ref b1), .unset, .unset, .unset, .unset] [])) t → Steps p.tables e below (T3.setTop (mkF m 12 #[.val (.int u0), .val (.int u1), .val (.int u2), .val (.int u3), .val (.int u4), .val (.int u5), .unset, .unset, .unset, .unset, .unset] [(.ref b1)])) t := by
    intro t k
    show Steps p.tables e below (T3.setTop (mkF m 12 #[.val (.int u0), .val (.int u1), .val (.int u2), .val (.int u3), .val (.int u4), .val (.int u5), .unset, .unset, .unset, .unset, .unset] [(.ref b1)])) t
    refine XS.astore X3.here hx rfl (hb hby at_12) rfl rfl (l' := #[.val (.int u0), .val (.int u1), .val (.int u2), .val (.int u3), .val (.int u4), .val (.int u5), .val (.ref b1), .unset, .unset, .unset, .unset]) rfl ?_
    exact k
  refine OFin.go S4 ?_
  obtain ⟨T5, h5, X5, e5, E5, A5, D5, -, st5⟩ := newO X3 hx hZ hown (hw _ (List.mem_of_getElem? (i := 0) rfl)) (hw _ (List.mem_of_getElem? (i := 1) rfl)) (hw _ (List.mem_of_getElem? (i := 2) rfl)) rfl (g := (mkF m 14 #[.val (.int u0), .val (.int u1), .val (.int u2), .val (.int u3), .val (.int u4), .val (.int u5), .val (.ref b1), .unset, .unset, .unset, .unset] [])) rfl (hb hby at_14) (Nat.le_of_ble_eq_true rfl) (Nat.le_of_ble_eq_true rfl)
  obtain ⟨b5, g5⟩ : ∃ z, z = T3.heap.size := ⟨_, rfl⟩
  rw [← g5] at A5 D5 st5
  have F6 := A1.keep K3q
  have q7 : b1 ≠ b5 := up_lt F6.lt g5
  have ge5 : n0 ≤ b5 := Nat.le_trans Z3 (Nat.le_of_eq g5.symm)
  have Z5 : n0 ≤ h5.size := Nat.le_trans Z3 E5.1
  have F5_amplitude : Fld Z h5 b5 "com/example/cardbench/cardbench/Tone" "amplitude" "D" (.double (0 : UInt64)) := D5 (Or.inr (hw _ (List.mem_of_getElem? (i := 15) rfl))) (ty := .double) (by decide)
  have F5_phase : Fld Z h5 b5 "com/example/cardbench/cardbench/Tone" "phase" "D" (.double (0 : UInt64)) := D5 (Or.inr (hw _ (List.mem_of_getElem? (i := 17) rfl))) (ty := .double) (by decide)
  refine OFin.go st5 ?_
  show OFin p e below _ (T5.setTop (mkF m 17 #[.val (.int u0), .val (.int u1), .val (.int u2), .val (.int u3), .val (.int u4), .val (.int u5), .val (.ref b1), .unset, .unset, .unset, .unset] [(.ref b5)]))
  have S8 : ∀ t, Steps p.tables e below (T5.setTop (mkF m 25 #[.val (.int u0), .val (.int u1), .val (.int u2), .val (.int u3), .val (.int u4), .val (.int u5), .val (.ref b1), .unset, .unset, .unset, .unset] [(.double (FP.i2d (u4 >>> ((1 : Int32) &&& 31)))), (.double (FP.i2d u0)), (.ref b5), (.ref b5)])) t → Steps p.tables e below (T5.setTop (mkF m 17 #[.val (.int u0), .val (.int u1), .val (.int u2), .val (.int u3), .val (.int u4), .val (.int u5), .val (.ref b1), .unset, .unset, .unset, .unset] [(.ref b5)])) t := by
    intro t k
    show Steps p.tables e below (T5.setTop (mkF m 17 #[.val (.int u0), .val (.int u1), .val (.int u2), .val (.int u3), .val (.int u4), .val (.int u5), .val (.ref b1), .unset, .unset, .unset, .unset] [(.ref b5)])) t
    refine XS.dup X5.here hx rfl (hb hby at_17) rfl rfl ?_
    show Steps p.tables e below (T5.setTop (mkF m 18 #[.val (.int u0), .val (.int u1), .val (.int u2), .val (.int u3), .val (.int u4), .val (.int u5), .val (.ref b1), .unset, .unset, .unset, .unset] [(.ref b5), (.ref b5)])) t
    refine XS.iloadN X5.here hx rfl (hb hby at_18) rfl ?_
    show Steps p.tables e below (T5.setTop (mkF m 19 #[.val (.int u0), .val (.int u1), .val (.int u2), .val (.int u3), .val (.int u4), .val (.int u5), .val (.ref b1), .unset, .unset, .unset, .unset] [(.int u0), (.ref b5), (.ref b5)])) t
    refine XS.i2dS X5.here hx rfl (hb hby at_19) rfl rfl ?_
    show Steps p.tables e below (T5.setTop (mkF m 20 #[.val (.int u0), .val (.int u1), .val (.int u2), .val (.int u3), .val (.int u4), .val (.int u5), .val (.ref b1), .unset, .unset, .unset, .unset] [(.double (FP.i2d u0)), (.ref b5), (.ref b5)])) t
    refine XS.iload X5.here hx rfl (hb hby at_20) rfl ?_
    show Steps p.tables e below (T5.setTop (mkF m 22 #[.val (.int u0), .val (.int u1), .val (.int u2), .val (.int u3), .val (.int u4), .val (.int u5), .val (.ref b1), .unset, .unset, .unset, .unset] [(.int u4), (.double (FP.i2d u0)), (.ref b5), (.ref b5)])) t
    refine XS.iconst X5.here hx rfl (hb hby at_22) ?_
    show Steps p.tables e below (T5.setTop (mkF m 23 #[.val (.int u0), .val (.int u1), .val (.int u2), .val (.int u3), .val (.int u4), .val (.int u5), .val (.ref b1), .unset, .unset, .unset, .unset] [(.int (1 : Int32)), (.int u4), (.double (FP.i2d u0)), (.ref b5), (.ref b5)])) t
    refine XS.ishr X5.here hx rfl (hb hby at_23) rfl ?_
    show Steps p.tables e below (T5.setTop (mkF m 24 #[.val (.int u0), .val (.int u1), .val (.int u2), .val (.int u3), .val (.int u4), .val (.int u5), .val (.ref b1), .unset, .unset, .unset, .unset] [(.int (u4 >>> ((1 : Int32) &&& 31))), (.double (FP.i2d u0)), (.ref b5), (.ref b5)])) t
    refine XS.i2dS X5.here hx rfl (hb hby at_24) rfl rfl ?_
    exact k
  refine OFin.go S8 ?_
  obtain ⟨_, T9, Lc9, X9, hQ9, st9⟩ := specQ X5 hx hZ (y := (⟨"com/example/cardbench/cardbench/Tone", "<init>", "(DD)V"⟩ : MethodName)) rfl hown (hw _ (List.mem_of_getElem? (i := 3) rfl)) (hw _ (List.mem_of_getElem? (i := 4) rfl)) (hw _ (List.mem_of_getElem? (i := 2) rfl)) (hw _ (List.mem_of_getElem? (i := 5) rfl)) (by decide) (a := b5) (argsL := [(.double (FP.i2d u0)), (.double (FP.i2d (u4 >>> ((1 : Int32) &&& 31))))]) (rest := [(.ref b5)]) (rm1 l Z a0 hw [] b5 (FP.i2d u0) (FP.i2d (u4 >>> ((1 : Int32) &&& 31))) h5 n0 Z5 ge5 A5 F5_amplitude F5_phase) (W := 1) (by decide) (by decide) e5 (g := (mkF m 25 #[.val (.int u0), .val (.int u1), .val (.int u2), .val (.int u3), .val (.int u4), .val (.int u5), .val (.ref b1), .unset, .unset, .unset, .unset] [(.double (FP.i2d (u4 >>> ((1 : Int32) &&& 31)))), (.double (FP.i2d u0)), (.ref b5), (.ref b5)])) rfl (by rw [hml]; rfl) (lenOf pd_2 rfl) rfl (by show 2 * 0 + _ ≤ _; exact Nat.le_of_eq rfl) (hb hby at_25) (Nat.le_of_ble_eq_true rfl) (Nat.le_of_ble_eq_true rfl)
  obtain ⟨rfl, N9q, K9q, F9_amplitude, F9_phase⟩ := hQ9
  have Z9 : n0 ≤ T9.heap.size := Nat.le_trans Z5 K9q.1
  have N9 := Fr.app N3 N9q
  refine OFin.go st9 ?_
  show OFin p e below _ (T9.setTop (mkF m 28 #[.val (.int u0), .val (.int u1), .val (.int u2), .val (.int u3), .val (.int u4), .val (.int u5), .val (.ref b1), .unset, .unset, .unset, .unset] [(.ref b5)]))
  have S10 : ∀ t, Steps p.tables e below (T9.setTop (mkF m 30 #[.val (.int u0), .val (.int u1), .val (.int u2), .val (.int u3), .val (.int u4), .val (.int u5), .val (.ref b1), .val (.ref b5), .unset, .unset, .unset] [])) t → Steps p.tables e below (T9.setTop (mkF m 28 #[.val (.int u0), .val (.int u1), .val (.int u2), .val (.int u3), .val (.int u4), .val (.int u5), .val (.ref b1), .unset, .unset, .unset, .unset] [(.ref b5)])) t := by
    intro t k
    show Steps p.tables e below (T9.setTop (mkF m 28 #[.val (.int u0), .val (.int u1), .val (.int u2), .val (.int u3), .val (.int u4), .val (.int u5), .val (.ref b1), .unset, .unset, .unset, .unset] [(.ref b5)])) t
    refine XS.astore X9.here hx rfl (hb hby at_28) rfl rfl (l' := #[.val (.int u0), .val (.int u1), .val (.int u2), .val (.int u3), .val (.int u4), .val (.int u5), .val (.ref b1), .val (.ref b5), .unset, .unset, .unset]) rfl ?_
    exact k
  refine OFin.go S10 ?_
  obtain ⟨T11, h11, X11, e11, E11, A11, D11, -, st11⟩ := newO X9 hx hZ hown (hw _ (List.mem_of_getElem? (i := 0) rfl)) (hw _ (List.mem_of_getElem? (i := 1) rfl)) (hw _ (List.mem_of_getElem? (i := 2) rfl)) rfl (g := (mkF m 30 #[.val (.int u0), .val (.int u1), .val (.int u2), .val (.int u3), .val (.int u4), .val (.int u5), .val (.ref b1), .val (.ref b5), .unset, .unset, .unset] [])) rfl (hb hby at_30) (Nat.le_of_ble_eq_true rfl) (Nat.le_of_ble_eq_true rfl)
  obtain ⟨b11, g11⟩ : ∃ z, z = T9.heap.size := ⟨_, rfl⟩
  rw [← g11] at A11 D11 st11
  have F12 := F6.ext E5
  have F13 := F12.keep K9q
  have q14 : b1 ≠ b11 := up_lt F13.lt g11
  have F15 := A5.keep K9q
  have q16 : b5 ≠ b11 := up_lt F15.lt g11
  have ge11 : n0 ≤ b11 := Nat.le_trans Z9 (Nat.le_of_eq g11.symm)
  have Z11 : n0 ≤ h11.size := Nat.le_trans Z9 E11.1
  have F11_amplitude : Fld Z h11 b11 "com/example/cardbench/cardbench/Tone" "amplitude" "D" (.double (0 : UInt64)) := D11 (Or.inr (hw _ (List.mem_of_getElem? (i := 15) rfl))) (ty := .double) (by decide)
  have F11_phase : Fld Z h11 b11 "com/example/cardbench/cardbench/Tone" "phase" "D" (.double (0 : UInt64)) := D11 (Or.inr (hw _ (List.mem_of_getElem? (i := 17) rfl))) (ty := .double) (by decide)
  refine OFin.go st11 ?_
  show OFin p e below _ (T11.setTop (mkF m 33 #[.val (.int u0), .val (.int u1), .val (.int u2), .val (.int u3), .val (.int u4), .val (.int u5), .val (.ref b1), .val (.ref b5), .unset, .unset, .unset] [(.ref b11)]))
  have S17 : ∀ t, Steps p.tables e below (T11.setTop (mkF m 41 #[.val (.int u0), .val (.int u1), .val (.int u2), .val (.int u3), .val (.int u4), .val (.int u5), .val (.ref b1), .val (.ref b5), .unset, .unset, .unset] [(.double (FP.i2d (u4 >>> ((2 : Int32) &&& 31)))), (.double (FP.i2d u1)), (.ref b11), (.ref b11)])) t → Steps p.tables e below (T11.setTop (mkF m 33 #[.val (.int u0), .val (.int u1), .val (.int u2), .val (.int u3), .val (.int u4), .val (.int u5), .val (.ref b1), .val (.ref b5), .unset, .unset, .unset] [(.ref b11)])) t := by
    intro t k
    show Steps p.tables e below (T11.setTop (mkF m 33 #[.val (.int u0), .val (.int u1), .val (.int u2), .val (.int u3), .val (.int u4), .val (.int u5), .val (.ref b1), .val (.ref b5), .unset, .unset, .unset] [(.ref b11)])) t
    refine XS.dup X11.here hx rfl (hb hby at_33) rfl rfl ?_
    show Steps p.tables e below (T11.setTop (mkF m 34 #[.val (.int u0), .val (.int u1), .val (.int u2), .val (.int u3), .val (.int u4), .val (.int u5), .val (.ref b1), .val (.ref b5), .unset, .unset, .unset] [(.ref b11), (.ref b11)])) t
    refine XS.iloadN X11.here hx rfl (hb hby at_34) rfl ?_
    show Steps p.tables e below (T11.setTop (mkF m 35 #[.val (.int u0), .val (.int u1), .val (.int u2), .val (.int u3), .val (.int u4), .val (.int u5), .val (.ref b1), .val (.ref b5), .unset, .unset, .unset] [(.int u1), (.ref b11), (.ref b11)])) t
    refine XS.i2dS X11.here hx rfl (hb hby at_35) rfl rfl ?_
    show Steps p.tables e below (T11.setTop (mkF m 36 #[.val (.int u0), .val (.int u1), .val (.int u2), .val (.int u3), .val (.int u4), .val (.int u5), .val (.ref b1), .val (.ref b5), .unset, .unset, .unset] [(.double (FP.i2d u1)), (.ref b11), (.ref b11)])) t
    refine XS.iload X11.here hx rfl (hb hby at_36) rfl ?_
    show Steps p.tables e below (T11.setTop (mkF m 38 #[.val (.int u0), .val (.int u1), .val (.int u2), .val (.int u3), .val (.int u4), .val (.int u5), .val (.ref b1), .val (.ref b5), .unset, .unset, .unset] [(.int u4), (.double (FP.i2d u1)), (.ref b11), (.ref b11)])) t
    refine XS.iconst X11.here hx rfl (hb hby at_38) ?_
    show Steps p.tables e below (T11.setTop (mkF m 39 #[.val (.int u0), .val (.int u1), .val (.int u2), .val (.int u3), .val (.int u4), .val (.int u5), .val (.ref b1), .val (.ref b5), .unset, .unset, .unset] [(.int (2 : Int32)), (.int u4), (.double (FP.i2d u1)), (.ref b11), (.ref b11)])) t
    refine XS.ishr X11.here hx rfl (hb hby at_39) rfl ?_
    show Steps p.tables e below (T11.setTop (mkF m 40 #[.val (.int u0), .val (.int u1), .val (.int u2), .val (.int u3), .val (.int u4), .val (.int u5), .val (.ref b1), .val (.ref b5), .unset, .unset, .unset] [(.int (u4 >>> ((2 : Int32) &&& 31))), (.double (FP.i2d u1)), (.ref b11), (.ref b11)])) t
    refine XS.i2dS X11.here hx rfl (hb hby at_40) rfl rfl ?_
    exact k
  refine OFin.go S17 ?_
  obtain ⟨_, T18, Lc18, X18, hQ18, st18⟩ := specQ X11 hx hZ (y := (⟨"com/example/cardbench/cardbench/Tone", "<init>", "(DD)V"⟩ : MethodName)) rfl hown (hw _ (List.mem_of_getElem? (i := 3) rfl)) (hw _ (List.mem_of_getElem? (i := 4) rfl)) (hw _ (List.mem_of_getElem? (i := 2) rfl)) (hw _ (List.mem_of_getElem? (i := 5) rfl)) (by decide) (a := b11) (argsL := [(.double (FP.i2d u1)), (.double (FP.i2d (u4 >>> ((2 : Int32) &&& 31))))]) (rest := [(.ref b11)]) (rm1 l Z a0 hw [] b11 (FP.i2d u1) (FP.i2d (u4 >>> ((2 : Int32) &&& 31))) h11 n0 Z11 ge11 A11 F11_amplitude F11_phase) (W := 1) (by decide) (by decide) e11 (g := (mkF m 41 #[.val (.int u0), .val (.int u1), .val (.int u2), .val (.int u3), .val (.int u4), .val (.int u5), .val (.ref b1), .val (.ref b5), .unset, .unset, .unset] [(.double (FP.i2d (u4 >>> ((2 : Int32) &&& 31)))), (.double (FP.i2d u1)), (.ref b11), (.ref b11)])) rfl (by rw [hml]; rfl) (lenOf pd_2 rfl) rfl (by show 2 * 0 + _ ≤ _; exact Nat.le_of_eq rfl) (hb hby at_41) (Nat.le_of_ble_eq_true rfl) (Nat.le_of_ble_eq_true rfl)
  obtain ⟨rfl, N18q, K18q, F18_amplitude, F18_phase⟩ := hQ18
  have Z18 : n0 ≤ T18.heap.size := Nat.le_trans Z11 K18q.1
  have N18 := Fr.app N9 N18q
  refine OFin.go st18 ?_
  show OFin p e below _ (T18.setTop (mkF m 44 #[.val (.int u0), .val (.int u1), .val (.int u2), .val (.int u3), .val (.int u4), .val (.int u5), .val (.ref b1), .val (.ref b5), .unset, .unset, .unset] [(.ref b11)]))
  have S19 : ∀ t, Steps p.tables e below (T18.setTop (mkF m 46 #[.val (.int u0), .val (.int u1), .val (.int u2), .val (.int u3), .val (.int u4), .val (.int u5), .val (.ref b1), .val (.ref b5), .val (.ref b11), .unset, .unset] [])) t → Steps p.tables e below (T18.setTop (mkF m 44 #[.val (.int u0), .val (.int u1), .val (.int u2), .val (.int u3), .val (.int u4), .val (.int u5), .val (.ref b1), .val (.ref b5), .unset, .unset, .unset] [(.ref b11)])) t := by
    intro t k
    show Steps p.tables e below (T18.setTop (mkF m 44 #[.val (.int u0), .val (.int u1), .val (.int u2), .val (.int u3), .val (.int u4), .val (.int u5), .val (.ref b1), .val (.ref b5), .unset, .unset, .unset] [(.ref b11)])) t
    refine XS.astore X18.here hx rfl (hb hby at_44) rfl rfl (l' := #[.val (.int u0), .val (.int u1), .val (.int u2), .val (.int u3), .val (.int u4), .val (.int u5), .val (.ref b1), .val (.ref b5), .val (.ref b11), .unset, .unset]) rfl ?_
    exact k
  refine OFin.go S19 ?_
  obtain ⟨T20, h20, X20, e20, E20, A20, D20, -, st20⟩ := newO X18 hx hZ hown (hw _ (List.mem_of_getElem? (i := 18) rfl)) (hw _ (List.mem_of_getElem? (i := 19) rfl)) (hw _ (List.mem_of_getElem? (i := 20) rfl)) rfl (g := (mkF m 46 #[.val (.int u0), .val (.int u1), .val (.int u2), .val (.int u3), .val (.int u4), .val (.int u5), .val (.ref b1), .val (.ref b5), .val (.ref b11), .unset, .unset] [])) rfl (hb hby at_46) (Nat.le_of_ble_eq_true rfl) (Nat.le_of_ble_eq_true rfl)
  obtain ⟨b20, g20⟩ : ∃ z, z = T18.heap.size := ⟨_, rfl⟩
  rw [← g20] at A20 D20 st20
  have F21 := F13.ext E11
  have F22 := F21.keep K18q
  have q23 : b1 ≠ b20 := up_lt F22.lt g20
  have F24 := F15.ext E11
  have F25 := F24.keep K18q
  have q26 : b5 ≠ b20 := up_lt F25.lt g20
  have F27 := A11.keep K18q
  have q28 : b11 ≠ b20 := up_lt F27.lt g20
  have ge20 : n0 ≤ b20 := Nat.le_trans Z18 (Nat.le_of_eq g20.symm)
  have Z20 : n0 ≤ h20.size := Nat.le_trans Z18 E20.1
  have F20_samples : Fld Z h20 b20 "com/example/cardbench/cardbench/LoadModulation$Result" "samples" "I" (.int (0 : Int32)) := D20 (Or.inr (hw _ (List.mem_of_getElem? (i := 27) rfl))) (ty := .int) (by decide)
  have F20_sampleInterval : Fld Z h20 b20 "com/example/cardbench/cardbench/LoadModulation$Result" "sampleInterval" "D" (.double (0 : UInt64)) := D20 (Or.inr (hw _ (List.mem_of_getElem? (i := 29) rfl))) (ty := .double) (by decide)
  have F20_window : Fld Z h20 b20 "com/example/cardbench/cardbench/LoadModulation$Result" "window" "I" (.int (0 : Int32)) := D20 (Or.inr (hw _ (List.mem_of_getElem? (i := 31) rfl))) (ty := .int) (by decide)
  have F20_carrier : Fld Z h20 b20 "com/example/cardbench/cardbench/LoadModulation$Result" "carrier" "Lcom/example/cardbench/cardbench/Tone;" .null := D20 (Or.inr (hw _ (List.mem_of_getElem? (i := 33) rfl))) (ty := (.object "com/example/cardbench/cardbench/Tone")) (by decide)
  have F20_upperSideband : Fld Z h20 b20 "com/example/cardbench/cardbench/LoadModulation$Result" "upperSideband" "Lcom/example/cardbench/cardbench/Tone;" .null := D20 (Or.inr (hw _ (List.mem_of_getElem? (i := 35) rfl))) (ty := (.object "com/example/cardbench/cardbench/Tone")) (by decide)
  have F20_lowerSideband : Fld Z h20 b20 "com/example/cardbench/cardbench/LoadModulation$Result" "lowerSideband" "Lcom/example/cardbench/cardbench/Tone;" .null := D20 (Or.inr (hw _ (List.mem_of_getElem? (i := 37) rfl))) (ty := (.object "com/example/cardbench/cardbench/Tone")) (by decide)
  refine OFin.go st20 ?_
  show OFin p e below _ (T20.setTop (mkF m 49 #[.val (.int u0), .val (.int u1), .val (.int u2), .val (.int u3), .val (.int u4), .val (.int u5), .val (.ref b1), .val (.ref b5), .val (.ref b11), .unset, .unset] [(.ref b20)]))
  have S29 : ∀ t, Steps p.tables e below (T20.setTop (mkF m 63 #[.val (.int u0), .val (.int u1), .val (.int u2), .val (.int u3), .val (.int u4), .val (.int u5), .val (.ref b1), .val (.ref b5), .val (.ref b11), .unset, .unset] [(.ref b11), (.ref b5), (.ref b1), (.int u5), (.double (4487126258331716666 : UInt64)), (.int u5), (.ref b20), (.ref b20)])) t → Steps p.tables e below (T20.setTop (mkF m 49 #[.val (.int u0), .val (.int u1), .val (.int u2), .val (.int u3), .val (.int u4), .val (.int u5), .val (.ref b1), .val (.ref b5), .val (.ref b11), .unset, .unset] [(.ref b20)])) t := by
    intro t k
    show Steps p.tables e below (T20.setTop (mkF m 49 #[.val (.int u0), .val (.int u1), .val (.int u2), .val (.int u3), .val (.int u4), .val (.int u5), .val (.ref b1), .val (.ref b5), .val (.ref b11), .unset, .unset] [(.ref b20)])) t
    refine XS.dup X20.here hx rfl (hb hby at_49) rfl rfl ?_
    show Steps p.tables e below (T20.setTop (mkF m 50 #[.val (.int u0), .val (.int u1), .val (.int u2), .val (.int u3), .val (.int u4), .val (.int u5), .val (.ref b1), .val (.ref b5), .val (.ref b11), .unset, .unset] [(.ref b20), (.ref b20)])) t
    refine XS.iload X20.here hx rfl (hb hby at_50) rfl ?_
    show Steps p.tables e below (T20.setTop (mkF m 52 #[.val (.int u0), .val (.int u1), .val (.int u2), .val (.int u3), .val (.int u4), .val (.int u5), .val (.ref b1), .val (.ref b5), .val (.ref b11), .unset, .unset] [(.int u5), (.ref b20), (.ref b20)])) t
    refine X20.ldc2DoubleC hx hown (mvT hZ (hw _ (List.mem_of_getElem? (i := 21) rfl))) (g := (mkF m 52 #[.val (.int u0), .val (.int u1), .val (.int u2), .val (.int u3), .val (.int u4), .val (.int u5), .val (.ref b1), .val (.ref b5), .val (.ref b11), .unset, .unset] [(.int u5), (.ref b20), (.ref b20)])) rfl (hb hby at_52) _ ?_
    show Steps p.tables e below (T20.setTop (mkF m 55 #[.val (.int u0), .val (.int u1), .val (.int u2), .val (.int u3), .val (.int u4), .val (.int u5), .val (.ref b1), .val (.ref b5), .val (.ref b11), .unset, .unset] [(.double (4487126258331716666 : UInt64)), (.int u5), (.ref b20), (.ref b20)])) t
    refine XS.iload X20.here hx rfl (hb hby at_55) rfl ?_
    show Steps p.tables e below (T20.setTop (mkF m 57 #[.val (.int u0), .val (.int u1), .val (.int u2), .val (.int u3), .val (.int u4), .val (.int u5), .val (.ref b1), .val (.ref b5), .val (.ref b11), .unset, .unset] [(.int u5), (.double (4487126258331716666 : UInt64)), (.int u5), (.ref b20), (.ref b20)])) t
    refine XS.aload X20.here hx rfl (hb hby at_57) rfl rfl ?_
    show Steps p.tables e below (T20.setTop (mkF m 59 #[.val (.int u0), .val (.int u1), .val (.int u2), .val (.int u3), .val (.int u4), .val (.int u5), .val (.ref b1), .val (.ref b5), .val (.ref b11), .unset, .unset] [(.ref b1), (.int u5), (.double (4487126258331716666 : UInt64)), (.int u5), (.ref b20), (.ref b20)])) t
    refine XS.aload X20.here hx rfl (hb hby at_59) rfl rfl ?_
    show Steps p.tables e below (T20.setTop (mkF m 61 #[.val (.int u0), .val (.int u1), .val (.int u2), .val (.int u3), .val (.int u4), .val (.int u5), .val (.ref b1), .val (.ref b5), .val (.ref b11), .unset, .unset] [(.ref b5), (.ref b1), (.int u5), (.double (4487126258331716666 : UInt64)), (.int u5), (.ref b20), (.ref b20)])) t
    refine XS.aload X20.here hx rfl (hb hby at_61) rfl rfl ?_
    exact k
  refine OFin.go S29 ?_
  obtain ⟨_, T30, Lc30, X30, hQ30, st30⟩ := specQ X20 hx hZ (y := (⟨"com/example/cardbench/cardbench/LoadModulation$Result", "<init>", "(IDILcom/example/cardbench/cardbench/Tone;Lcom/example/cardbench/cardbench/Tone;Lcom/example/cardbench/cardbench/Tone;)V"⟩ : MethodName)) rfl hown (hw _ (List.mem_of_getElem? (i := 22) rfl)) (hw _ (List.mem_of_getElem? (i := 23) rfl)) (hw _ (List.mem_of_getElem? (i := 20) rfl)) (hw _ (List.mem_of_getElem? (i := 24) rfl)) (by decide) (a := b20) (argsL := [(.int u5), (.double (4487126258331716666 : UInt64)), (.int u5), (.ref b1), (.ref b5), (.ref b11)]) (rest := [(.ref b20)]) (rm4 l Z a0 hw [] b20 u5 (4487126258331716666 : UInt64) u5 b1 b5 b11 h20 n0 Z20 ge20 A20 F20_samples F20_sampleInterval F20_window F20_carrier F20_upperSideband F20_lowerSideband) (W := 1) (by decide) (by decide) e20 (g := (mkF m 63 #[.val (.int u0), .val (.int u1), .val (.int u2), .val (.int u3), .val (.int u4), .val (.int u5), .val (.ref b1), .val (.ref b5), .val (.ref b11), .unset, .unset] [(.ref b11), (.ref b5), (.ref b1), (.int u5), (.double (4487126258331716666 : UInt64)), (.int u5), (.ref b20), (.ref b20)])) rfl (by rw [hml]; rfl) (lenOf pd_3 rfl) rfl (by show 2 * 0 + _ ≤ _; exact Nat.le_of_eq rfl) (hb hby at_63) (Nat.le_of_ble_eq_true rfl) (Nat.le_of_ble_eq_true rfl)
  obtain ⟨rfl, N30q, K30q, F30_samples, F30_sampleInterval, F30_window, F30_carrier, F30_upperSideband, F30_lowerSideband⟩ := hQ30
  have Z30 : n0 ≤ T30.heap.size := Nat.le_trans Z20 K30q.1
  have N30 := Fr.app N18 N30q
  refine OFin.go st30 ?_
  show OFin p e below _ (T30.setTop (mkF m 66 #[.val (.int u0), .val (.int u1), .val (.int u2), .val (.int u3), .val (.int u4), .val (.int u5), .val (.ref b1), .val (.ref b5), .val (.ref b11), .unset, .unset] [(.ref b20)]))
  have S31 : ∀ t, Steps p.tables e below (T30.setTop (mkF m 70 #[.val (.int u0), .val (.int u1), .val (.int u2), .val (.int u3), .val (.int u4), .val (.int u5), .val (.ref b1), .val (.ref b5), .val (.ref b11), .val (.ref b20), .unset] [(.int u2), (.int u0)])) t → Steps p.tables e below (T30.setTop (mkF m 66 #[.val (.int u0), .val (.int u1), .val (.int u2), .val (.int u3), .val (.int u4), .val (.int u5), .val (.ref b1), .val (.ref b5), .val (.ref b11), .unset, .unset] [(.ref b20)])) t := by
    intro t k
    show Steps p.tables e below (T30.setTop (mkF m 66 #[.val (.int u0), .val (.int u1), .val (.int u2), .val (.int u3), .val (.int u4), .val (.int u5), .val (.ref b1), .val (.ref b5), .val (.ref b11), .unset, .unset] [(.ref b20)])) t
    refine XS.astore X30.here hx rfl (hb hby at_66) rfl rfl (l' := #[.val (.int u0), .val (.int u1), .val (.int u2), .val (.int u3), .val (.int u4), .val (.int u5), .val (.ref b1), .val (.ref b5), .val (.ref b11), .val (.ref b20), .unset]) rfl ?_
    show Steps p.tables e below (T30.setTop (mkF m 68 #[.val (.int u0), .val (.int u1), .val (.int u2), .val (.int u3), .val (.int u4), .val (.int u5), .val (.ref b1), .val (.ref b5), .val (.ref b11), .val (.ref b20), .unset] [])) t
    refine XS.iloadN X30.here hx rfl (hb hby at_68) rfl ?_
    show Steps p.tables e below (T30.setTop (mkF m 69 #[.val (.int u0), .val (.int u1), .val (.int u2), .val (.int u3), .val (.int u4), .val (.int u5), .val (.ref b1), .val (.ref b5), .val (.ref b11), .val (.ref b20), .unset] [(.int u0)])) t
    refine XS.iloadN X30.here hx rfl (hb hby at_69) rfl ?_
    exact k
  refine OFin.go S31 ?_
  have J32 : ∀ t, Steps p.tables e below (T30.setTop (mkF m 83 #[.val (.int u0), .val (.int u1), .val (.int u2), .val (.int u3), .val (.int u4), .val (.int u5), .val (.ref b1), .val (.ref b5), .val (.ref b11), .val (.ref b20), .unset] [(.int (bi (¬ (u0 < u2) ∧ (¬ (u1 < u2)))))])) t → Steps p.tables e below (T30.setTop (mkF m 70 #[.val (.int u0), .val (.int u1), .val (.int u2), .val (.int u3), .val (.int u4), .val (.int u5), .val (.ref b1), .val (.ref b5), .val (.ref b11), .val (.ref b20), .unset] [(.int u2), (.int u0)])) t := by
    intro t k
    show Steps p.tables e below (T30.setTop (mkF m 70 #[.val (.int u0), .val (.int u1), .val (.int u2), .val (.int u3), .val (.int u4), .val (.int u5), .val (.ref b1), .val (.ref b5), .val (.ref b11), .val (.ref b20), .unset] [(.int u2), (.int u0)])) t
    by_cases h33 : (u0 < u2)
    · refine XS.icmpYes X30.here hx rfl (pc0 := 70) (pc' := 82) rfl (hb hby at_70) rfl (tlt h33).1 (by decide) (by decide) ?_
      show Steps p.tables e below (T30.setTop (mkF m 82 #[.val (.int u0), .val (.int u1), .val (.int u2), .val (.int u3), .val (.int u4), .val (.int u5), .val (.ref b1), .val (.ref b5), .val (.ref b11), .val (.ref b20), .unset] [])) t
      refine XS.iconst X30.here hx rfl (hb hby at_82) ?_
      show Steps p.tables e below (T30.setTop (mkF m 83 #[.val (.int u0), .val (.int u1), .val (.int u2), .val (.int u3), .val (.int u4), .val (.int u5), .val (.ref b1), .val (.ref b5), .val (.ref b11), .val (.ref b20), .unset] [(.int (0 : Int32))])) t
      exact (castTop (congrArg (fun zq_ => (mkF m 83 #[.val (.int u0), .val (.int u1), .val (.int u2), .val (.int u3), .val (.int u4), .val (.int u5), .val (.ref b1), .val (.ref b5), .val (.ref b11), .val (.ref b20), .unset] [(.int zq_)])) (bi_f (fun q => q.1 h33)).symm) k)
    · refine XS.icmpNo X30.here hx rfl (hb hby at_70) rfl (flt h33).1 ?_
      show Steps p.tables e below (T30.setTop (mkF m 73 #[.val (.int u0), .val (.int u1), .val (.int u2), .val (.int u3), .val (.int u4), .val (.int u5), .val (.ref b1), .val (.ref b5), .val (.ref b11), .val (.ref b20), .unset] [])) t
      refine XS.iloadN X30.here hx rfl (hb hby at_73) rfl ?_
      show Steps p.tables e below (T30.setTop (mkF m 74 #[.val (.int u0), .val (.int u1), .val (.int u2), .val (.int u3), .val (.int u4), .val (.int u5), .val (.ref b1), .val (.ref b5), .val (.ref b11), .val (.ref b20), .unset] [(.int u1)])) t
      refine XS.iloadN X30.here hx rfl (hb hby at_74) rfl ?_
      show Steps p.tables e below (T30.setTop (mkF m 75 #[.val (.int u0), .val (.int u1), .val (.int u2), .val (.int u3), .val (.int u4), .val (.int u5), .val (.ref b1), .val (.ref b5), .val (.ref b11), .val (.ref b20), .unset] [(.int u2), (.int u1)])) t
      by_cases h34 : (u1 < u2)
      · refine XS.icmpYes X30.here hx rfl (pc0 := 75) (pc' := 82) rfl (hb hby at_75) rfl (tlt h34).1 (by decide) (by decide) ?_
        show Steps p.tables e below (T30.setTop (mkF m 82 #[.val (.int u0), .val (.int u1), .val (.int u2), .val (.int u3), .val (.int u4), .val (.int u5), .val (.ref b1), .val (.ref b5), .val (.ref b11), .val (.ref b20), .unset] [])) t
        refine XS.iconst X30.here hx rfl (hb hby at_82) ?_
        show Steps p.tables e below (T30.setTop (mkF m 83 #[.val (.int u0), .val (.int u1), .val (.int u2), .val (.int u3), .val (.int u4), .val (.int u5), .val (.ref b1), .val (.ref b5), .val (.ref b11), .val (.ref b20), .unset] [(.int (0 : Int32))])) t
        exact (castTop (congrArg (fun zq_ => (mkF m 83 #[.val (.int u0), .val (.int u1), .val (.int u2), .val (.int u3), .val (.int u4), .val (.int u5), .val (.ref b1), .val (.ref b5), .val (.ref b11), .val (.ref b20), .unset] [(.int zq_)])) (bi_f (fun q => (fun q => q h34) q.2)).symm) k)
      · refine XS.icmpNo X30.here hx rfl (hb hby at_75) rfl (flt h34).1 ?_
        show Steps p.tables e below (T30.setTop (mkF m 78 #[.val (.int u0), .val (.int u1), .val (.int u2), .val (.int u3), .val (.int u4), .val (.int u5), .val (.ref b1), .val (.ref b5), .val (.ref b11), .val (.ref b20), .unset] [])) t
        refine XS.iconst X30.here hx rfl (hb hby at_78) ?_
        show Steps p.tables e below (T30.setTop (mkF m 79 #[.val (.int u0), .val (.int u1), .val (.int u2), .val (.int u3), .val (.int u4), .val (.int u5), .val (.ref b1), .val (.ref b5), .val (.ref b11), .val (.ref b20), .unset] [(.int (1 : Int32))])) t
        refine XS.goto X30.here hx rfl (pc0 := 79) (pc' := 83) rfl (hb hby at_79) (by decide) (by decide) ?_
        show Steps p.tables e below (T30.setTop (mkF m 83 #[.val (.int u0), .val (.int u1), .val (.int u2), .val (.int u3), .val (.int u4), .val (.int u5), .val (.ref b1), .val (.ref b5), .val (.ref b11), .val (.ref b20), .unset] [(.int (1 : Int32))])) t
        exact (castTop (congrArg (fun zq_ => (mkF m 83 #[.val (.int u0), .val (.int u1), .val (.int u2), .val (.int u3), .val (.int u4), .val (.int u5), .val (.ref b1), .val (.ref b5), .val (.ref b11), .val (.ref b20), .unset] [(.int zq_)])) (bi_t ⟨h33, h34⟩).symm) k)
  refine OFin.go J32 ?_
  have S35 : ∀ t, Steps p.tables e below (T30.setTop (mkF m 89 #[.val (.int u0), .val (.int u1), .val (.int u2), .val (.int u3), .val (.int u4), .val (.int u5), .val (.ref b1), .val (.ref b5), .val (.ref b11), .val (.ref b20), .val (.int (bi (¬ (u0 < u2) ∧ (¬ (u1 < u2)))))] [(.double (FP.i2d u2)), (.ref b20)])) t → Steps p.tables e below (T30.setTop (mkF m 83 #[.val (.int u0), .val (.int u1), .val (.int u2), .val (.int u3), .val (.int u4), .val (.int u5), .val (.ref b1), .val (.ref b5), .val (.ref b11), .val (.ref b20), .unset] [(.int (bi (¬ (u0 < u2) ∧ (¬ (u1 < u2)))))])) t := by
    intro t k
    show Steps p.tables e below (T30.setTop (mkF m 83 #[.val (.int u0), .val (.int u1), .val (.int u2), .val (.int u3), .val (.int u4), .val (.int u5), .val (.ref b1), .val (.ref b5), .val (.ref b11), .val (.ref b20), .unset] [(.int (bi (¬ (u0 < u2) ∧ (¬ (u1 < u2)))))])) t
    refine XS.istore X30.here hx rfl (hb hby at_83) rfl (l' := #[.val (.int u0), .val (.int u1), .val (.int u2), .val (.int u3), .val (.int u4), .val (.int u5), .val (.ref b1), .val (.ref b5), .val (.ref b11), .val (.ref b20), .val (.int (bi (¬ (u0 < u2) ∧ (¬ (u1 < u2)))))]) rfl ?_
    show Steps p.tables e below (T30.setTop (mkF m 85 #[.val (.int u0), .val (.int u1), .val (.int u2), .val (.int u3), .val (.int u4), .val (.int u5), .val (.ref b1), .val (.ref b5), .val (.ref b11), .val (.ref b20), .val (.int (bi (¬ (u0 < u2) ∧ (¬ (u1 < u2)))))] [])) t
    refine XS.aload X30.here hx rfl (hb hby at_85) rfl rfl ?_
    show Steps p.tables e below (T30.setTop (mkF m 87 #[.val (.int u0), .val (.int u1), .val (.int u2), .val (.int u3), .val (.int u4), .val (.int u5), .val (.ref b1), .val (.ref b5), .val (.ref b11), .val (.ref b20), .val (.int (bi (¬ (u0 < u2) ∧ (¬ (u1 < u2)))))] [(.ref b20)])) t
    refine XS.iloadN X30.here hx rfl (hb hby at_87) rfl ?_
    show Steps p.tables e below (T30.setTop (mkF m 88 #[.val (.int u0), .val (.int u1), .val (.int u2), .val (.int u3), .val (.int u4), .val (.int u5), .val (.ref b1), .val (.ref b5), .val (.ref b11), .val (.ref b20), .val (.int (bi (¬ (u0 < u2) ∧ (¬ (u1 < u2)))))] [(.int u2), (.ref b20)])) t
    refine XS.i2dS X30.here hx rfl (hb hby at_88) rfl rfl ?_
    exact k
  refine OFin.go S35 ?_
  have F37 := F9_amplitude.ext E11
  have F38 := F37.keep K18q (ninS q16 nin0)
  have F39 := F38.ext E20
  have F40 := F39.keep K30q (ninS q26 nin0)
  have F41 := F18_amplitude.ext E20
  have F42 := F41.keep K30q (ninS q28 nin0)
  have F43 := F25.ext E20
  have F44 := F43.keep K30q
  have F45 := F27.ext E20
  have F46 := F45.keep K30q
  have F47 := A20.keep K30q
  obtain ⟨_, T36, Lc36, X36, hQ36, st36⟩ := virtQ X30 hx hZ (y := (⟨"com/example/cardbench/cardbench/LoadModulation$Result", "passes", "(D)Z"⟩ : MethodName)) hown (hw _ (List.mem_of_getElem? (i := 38) rfl)) (hw _ (List.mem_of_getElem? (i := 40) rfl)) (hw _ (List.mem_of_getElem? (i := 20) rfl)) (hw _ (List.mem_of_getElem? (i := 42) rfl)) (hw _ (List.mem_of_getElem? (i := 39) rfl)) (hw _ (List.mem_of_getElem? (i := 41) rfl)) (by decide) F47 (argsL := [(.double (FP.i2d u2))]) (rest := []) (rm5 l Z a0 hw [] b20 (FP.i2d u2) b5 b11 (FP.i2d u0) (FP.i2d u1) T30.heap n0 Z30 F30_upperSideband F30_lowerSideband F44 F40 F46 F42) (W := 0) (by decide) (by decide) rfl (g := (mkF m 89 #[.val (.int u0), .val (.int u1), .val (.int u2), .val (.int u3), .val (.int u4), .val (.int u5), .val (.ref b1), .val (.ref b5), .val (.ref b11), .val (.ref b20), .val (.int (bi (¬ (u0 < u2) ∧ (¬ (u1 < u2)))))] [(.double (FP.i2d u2)), (.ref b20)])) rfl (by rw [hml]; rfl) (lenOf pd_4 rfl) rfl (by show 2 * 0 + _ ≤ _; exact Nat.le_of_eq rfl) (hb hby at_89) (Nat.le_of_ble_eq_true rfl) (Nat.le_of_ble_eq_true rfl)
  obtain ⟨rfl, N36q, e36⟩ := hQ36
  have N36 := Fr.app N30 N36q
  refine OFin.go st36 ?_
  show OFin p e below _ (T36.setTop (mkF m 92 #[.val (.int u0), .val (.int u1), .val (.int u2), .val (.int u3), .val (.int u4), .val (.int u5), .val (.ref b1), .val (.ref b5), .val (.ref b11), .val (.ref b20), .val (.int (bi (¬ (u0 < u2) ∧ (¬ (u1 < u2)))))] [(.int (fPass (FP.i2d u0) (FP.i2d u1) (FP.i2d u2)))]))
  have S48 : ∀ t, Steps p.tables e below (T36.setTop (mkF m 94 #[.val (.int u0), .val (.int u1), .val (.int u2), .val (.int u3), .val (.int u4), .val (.int u5), .val (.ref b1), .val (.ref b5), .val (.ref b11), .val (.ref b20), .val (.int (bi (¬ (u0 < u2) ∧ (¬ (u1 < u2)))))] [(.int (bi (¬ (u0 < u2) ∧ (¬ (u1 < u2))))), (.int (fPass (FP.i2d u0) (FP.i2d u1) (FP.i2d u2)))])) t → Steps p.tables e below (T36.setTop (mkF m 92 #[.val (.int u0), .val (.int u1), .val (.int u2), .val (.int u3), .val (.int u4), .val (.int u5), .val (.ref b1), .val (.ref b5), .val (.ref b11), .val (.ref b20), .val (.int (bi (¬ (u0 < u2) ∧ (¬ (u1 < u2)))))] [(.int (fPass (FP.i2d u0) (FP.i2d u1) (FP.i2d u2)))])) t := by
    intro t k
    show Steps p.tables e below (T36.setTop (mkF m 92 #[.val (.int u0), .val (.int u1), .val (.int u2), .val (.int u3), .val (.int u4), .val (.int u5), .val (.ref b1), .val (.ref b5), .val (.ref b11), .val (.ref b20), .val (.int (bi (¬ (u0 < u2) ∧ (¬ (u1 < u2)))))] [(.int (fPass (FP.i2d u0) (FP.i2d u1) (FP.i2d u2)))])) t
    refine XS.iload X36.here hx rfl (hb hby at_92) rfl ?_
    exact k
  refine OFin.go S48 ?_
  have S49 : ∀ t, Steps p.tables e below (T36.setTop (mkF m 97 #[.val (.int u0), .val (.int u1), .val (.int u2), .val (.int u3), .val (.int u4), .val (.int u5), .val (.ref b1), .val (.ref b5), .val (.ref b11), .val (.ref b20), .val (.int (bi (¬ (u0 < u2) ∧ (¬ (u1 < u2)))))] [])) t → Steps p.tables e below (T36.setTop (mkF m 94 #[.val (.int u0), .val (.int u1), .val (.int u2), .val (.int u3), .val (.int u4), .val (.int u5), .val (.ref b1), .val (.ref b5), .val (.ref b11), .val (.ref b20), .val (.int (bi (¬ (u0 < u2) ∧ (¬ (u1 < u2)))))] [(.int (bi (¬ (u0 < u2) ∧ (¬ (u1 < u2))))), (.int (fPass (FP.i2d u0) (FP.i2d u1) (FP.i2d u2)))])) t := by
    intro t k
    show Steps p.tables e below (T36.setTop (mkF m 94 #[.val (.int u0), .val (.int u1), .val (.int u2), .val (.int u3), .val (.int u4), .val (.int u5), .val (.ref b1), .val (.ref b5), .val (.ref b11), .val (.ref b20), .val (.int (bi (¬ (u0 < u2) ∧ (¬ (u1 < u2)))))] [(.int (bi (¬ (u0 < u2) ∧ (¬ (u1 < u2))))), (.int (fPass (FP.i2d u0) (FP.i2d u1) (FP.i2d u2)))])) t
    refine XS.icmpNo X36.here hx rfl (hb hby at_94) rfl (teq (own_law _ _ _)).2 ?_
    exact k
  refine OFin.go S49 ?_
  have S50 : ∀ t, Steps p.tables e below (T36.setTop (mkF m 102 #[.val (.int u0), .val (.int u1), .val (.int u2), .val (.int u3), .val (.int u4), .val (.int u5), .val (.ref b1), .val (.ref b5), .val (.ref b11), .val (.ref b20), .val (.int (bi (¬ (u0 < u2) ∧ (¬ (u1 < u2)))))] [(.int (1 : Int32))])) t → Steps p.tables e below (T36.setTop (mkF m 97 #[.val (.int u0), .val (.int u1), .val (.int u2), .val (.int u3), .val (.int u4), .val (.int u5), .val (.ref b1), .val (.ref b5), .val (.ref b11), .val (.ref b20), .val (.int (bi (¬ (u0 < u2) ∧ (¬ (u1 < u2)))))] [])) t := by
    intro t k
    show Steps p.tables e below (T36.setTop (mkF m 97 #[.val (.int u0), .val (.int u1), .val (.int u2), .val (.int u3), .val (.int u4), .val (.int u5), .val (.ref b1), .val (.ref b5), .val (.ref b11), .val (.ref b20), .val (.int (bi (¬ (u0 < u2) ∧ (¬ (u1 < u2)))))] [])) t
    refine XS.iconst X36.here hx rfl (hb hby at_97) ?_
    show Steps p.tables e below (T36.setTop (mkF m 98 #[.val (.int u0), .val (.int u1), .val (.int u2), .val (.int u3), .val (.int u4), .val (.int u5), .val (.ref b1), .val (.ref b5), .val (.ref b11), .val (.ref b20), .val (.int (bi (¬ (u0 < u2) ∧ (¬ (u1 < u2)))))] [(.int (1 : Int32))])) t
    refine XS.goto X36.here hx rfl (pc0 := 98) (pc' := 102) rfl (hb hby at_98) (by decide) (by decide) ?_
    exact k
  refine OFin.go S50 ?_
  exact finZ X36 hx Bd.notSynchronized (t := .boolean) Bd.returns (by simp) (hb hby at_102) rfl (by decide) (by decide) (⟨congrArg (fun z => some (Value.int z)) (rfl : (1 : Int32) = (1 : Int32)), N36⟩)
set_option maxRecDepth 65536 in
set_option maxHeartbeats 40000000 in
theorem comes_1 {Post : Tables → Env → Array Value → State → Outcome → State → Prop} (hpost : ∀ tb e args s v u, (limb_1_1.after args s (.returned v) u = true ∧ limb_1_2.after args s (.returned v) u = true ∧ True) → FrameEnd s (.returned v) u (Jvm.fieldLocs frame_1_writes args s ++ Jvm.arrayLocs frame_1_arrays args s ++ Jvm.staticLocs frame_1_statics s) 16 128 → Post tb e args s (.returned v) u) :
    ArmFor flags0 classFile x code maxLocals ret World_1 tables_1 room_1 Calls_1 rest_1 Pre_1 Post := by
  intro l hfl _ _ p e ha hc hk s m args below hf hA hF happ hP
  obtain ⟨hcalls, hrest, hpre⟩ := hP
  obtain ⟨-, -, -, hnamed, -, -, -, hat⟩ := (Spec.applies_iff hf).mp happ
  obtain ⟨hg, hn⟩ := and_e (Cond.before_iff.mp (show (Jvm.Cond.and given_1 narrow_1).before args s = true from hpre))
  obtain ⟨gg2, gg3⟩ := and_e hg
  obtain ⟨gg4, gg5⟩ := and_e gg3
  obtain ⟨gg6, gg7⟩ := and_e gg5
  obtain ⟨gg8, gg9⟩ := and_e gg7
  obtain ⟨gg10, gg11⟩ := and_e gg9
  obtain ⟨gg12, gg13⟩ := and_e gg11
  obtain ⟨w0, w1, w2, w3, w4, w5, rfl⟩ : ∃ w0 w1 w2 w3 w4 w5 : Value, args = #[w0, w1, w2, w3, w4, w5] := by
    have hs : args.size = 6 := by simpa [Cond.value, given_1] using gg2
    obtain ⟨L⟩ := args
    match L, hs with
    | [w0, w1, w2, w3, w4, w5], _ => exact ⟨w0, w1, w2, w3, w4, w5, rfl⟩
  have hw := fun d (hd : d ∈ tables_1) => atoms_spec (ws := Jvm.Cond.code x code maxLocals ret :: tables_1) hat d (List.mem_cons_of_mem _ hd)
  have hfit : Fit s := fun {y c} hc i hi => by
    obtain ⟨ha, rfl⟩ := Array.getElem?_eq_some_iff.mp hc
    have q := List.all_eq_true.mp ((Array.all_eq_true_iff_forall_mem.mp hF) _ (Array.getElem_mem ha)) i (List.mem_range.mpr hi)
    simpa [Array.getElem?_eq_getElem hi] using q
  obtain ⟨i0, ei0⟩ := is_v gg4
  obtain rfl : w0 = (.int i0) := Option.some.inj ei0
  obtain ⟨i1, ei1⟩ := is_v gg6
  obtain rfl : w1 = (.int i1) := Option.some.inj ei1
  obtain ⟨i2, ei2⟩ := is_v gg8
  obtain rfl : w2 = (.int i2) := Option.some.inj ei2
  obtain ⟨i3, ei3⟩ := is_v gg10
  obtain rfl : w3 = (.int i3) := Option.some.inj ei3
  obtain ⟨i4, ei4⟩ := is_v gg12
  obtain rfl : w4 = (.int i4) := Option.some.inj ei4
  obtain ⟨i5, ei5⟩ := is_v gg13
  obtain rfl : w5 = (.int i5) := Option.some.inj ei5
  obtain ⟨n, o, h1, h2, h3, _, L, rfl, ⟨rfl, N⟩, hq⟩ := rm0 l s _ hw tables_1 i0 i1 i2 i3 i4 i5 s.heap s.heap.size (Nat.le_refl _)  p e ha hc hk s m _ below hf ((Spec.applies_iff_loose hf).mp happ).1 ⟨rfl, State.Warmed39.refl s, rfl⟩ trivial
  refine ⟨n, _, h1, h2, h3, hpost _ _ _ _ _ _ ⟨Cond.after_iff.mpr rfl, Cond.after_iff.mpr (eq_i res_at (Term.int_eval (1)) rfl), trivial⟩ ⟨hq.1, hq.2.1, (hq.2.2.sift fun y hy => Or.inr (N y hy)).mono (by decide) (by decide)⟩⟩
theorem main_1_1 : Claimed_1_1 := comes_1 fun _ _ _ _ _ _ h hF => ⟨h.1, hF⟩
theorem main_1_2 : Claimed_1_2 := comes_1 fun _ _ _ _ _ _ h hF => ⟨h.2.1, hF⟩
end Jvm.Pilot.@@N@@
namespace Jvm.Pilot.@@N@@
open Jvm Jvm.ClassFile Sem Op Lib Jvm.Free Jvm.Stand Jvm.Pilot.@@N@@.Jvm.D
/-! MADE BY PROGRAM (witnessworld.py) out of the Statement's table words and the real class files: 11 classes; the members and pool entries that the words name. The judged class is class 1, her method 1. -/
namespace start1
open Jvm.ClassFile
def u (s : String) : CpInfo := .utf8 (stringToUtf16 s)
/-- a pool by its gaps: so many unusable entries, then the entry; so many at the end -/
def gap : Nat → List CpInfo → List CpInfo
  | 0, r => r
  | n + 1, r => .unusable :: gap n r
def poolList (es : List (Nat × CpInfo)) (last : Nat) : List CpInfo := es.foldr (fun e r => gap e.1 (e.2 :: r)) (gap last [])
def pool (es : List (Nat × CpInfo)) (last : Nat) : Array CpInfo := ⟨poolList es last⟩
def fileOf (pool : Array CpInfo) (this : Nat) (attrs : Array Attribute := #[]) (ms : Array MethodInfo := #[]) (fl : Nat := 33) (sup : Nat := 0) (ifs : Array Nat := #[]) (fds : Array FieldInfo := #[]) : ClassFile where
  minorVersion := 0
  majorVersion := 65
  constantPool := pool
  accessFlags := fl
  thisClass := this
  superClass := sup
  interfaces := ifs
  fields := fds
  methods := ms
  attributes := attrs
def plain (name : String) (sup : Option ClassId) : Class where
  name := name
  kind := .ordinary
  loader := none
  accessFlags := 33
  super := sup
  interfaces := #[]
  cf := none
  fields := #[]
  methods := #[]
  instanceTypes := #[]
  staticTypes := #[]
  resolved := #[]
  callSites := []
  init := .initialized
  statics := none
  mirror := none

def pool0 : Array CpInfo := pool [(5, u "<init>"), (0, u "()V"), (1, .class_ 10), (1, u "java/lang/Object")] 113

def k0c0 : Code := { maxStack := 0, maxLocals := 1, code := object_method_1_code, exceptionTable := #[], attributes := #[] }
def k0m0 : Method := { name := "<init>", desc := "()V", sig := { parameters := [], returnType := none }, accessFlags := 1, code := some k0c0 }
/-- java/lang/Object -/
def k0 : Class := { plain "java/lang/Object" none with
  accessFlags := 33
  interfaces := #[]
  cf := some (fileOf pool0 8 #[] #[{ accessFlags := 1, nameIndex := 5, descriptorIndex := 6, attributes := #[] }] 33 0 #[] #[])
  fields := #[]
  methods := #[k0m0]
  instanceTypes := #[]
  staticTypes := #[]
  resolved := Array.replicate 124 none
  statics := none }

def pool1 : Array CpInfo := pool [(2, .class_ 4), (1, u "java/lang/Object"), (0, u "<init>"), (0, u "()V"), (0, .class_ 8), (0, u "com/example/cardbench/cardbench/Tone"), (0, .methodref 7 10), (0, .nameAndType 5 11), (0, u "(DD)V"), (0, .class_ 13), (0, u "com/example/cardbench/cardbench/LoadModulation$Result"), (0, .double 4487126258331716666), (1, .methodref 12 17), (0, .nameAndType 5 18), (0, u "(IDILcom/example/cardbench/cardbench/Tone;Lcom/example/cardbench/cardbench/Tone;Lcom/example/cardbench/cardbench/Tone;)V"), (0, .methodref 12 20), (0, .nameAndType 21 22), (0, u "passes"), (0, u "(D)Z"), (0, .class_ 24), (0, u "com/example/cardbench/cardbench/LoadModulationPassesPinLaw"), (2, u "law"), (0, u "(IIIIII)Z")] 7

def k1m0 : Method := { name := "<init>", desc := "()V", sig := { parameters := [], returnType := none }, accessFlags := 2, code := none }
def k1c1 : Code := { maxStack := 9, maxLocals := 11, code := code, exceptionTable := #[], attributes := #[] }
def k1m1 : Method := { name := "law", desc := "(IIIIII)Z", sig := { parameters := [.int, .int, .int, .int, .int, .int], returnType := some .boolean }, accessFlags := 9, code := some k1c1 }
/-- com/example/cardbench/cardbench/LoadModulationPassesPinLaw -/
def k1 : Class := { plain "com/example/cardbench/cardbench/LoadModulationPassesPinLaw" (some 0) with
  accessFlags := 49
  interfaces := #[]
  cf := some (fileOf pool1 23 #[] #[{ accessFlags := 2, nameIndex := 5, descriptorIndex := 6, attributes := #[] }, { accessFlags := 9, nameIndex := 27, descriptorIndex := 28, attributes := #[] }] 49 2 #[] #[])
  fields := #[]
  methods := #[k1m0, k1m1]
  instanceTypes := #[]
  staticTypes := #[]
  resolved := Array.replicate 36 none
  statics := none }

def pool2 : Array CpInfo := pool [(1, .methodref 2 3), (0, .class_ 4), (0, .nameAndType 5 6), (0, u "java/lang/Object"), (0, u "<init>"), (0, u "()V"), (0, .class_ 8), (0, u "java/lang/Record")] 13

def k2c0 : Code := { maxStack := 1, maxLocals := 1, code := jdk_30_method_1_code, exceptionTable := #[], attributes := #[] }
def k2m0 : Method := { name := "<init>", desc := "()V", sig := { parameters := [], returnType := none }, accessFlags := 4, code := some k2c0 }
/-- java/lang/Record -/
def k2 : Class := { plain "java/lang/Record" (some 0) with
  accessFlags := 1057
  interfaces := #[]
  cf := some (fileOf pool2 7 #[] #[{ accessFlags := 4, nameIndex := 5, descriptorIndex := 6, attributes := #[] }] 1057 2 #[] #[])
  fields := #[]
  methods := #[k2m0]
  instanceTypes := #[]
  staticTypes := #[]
  resolved := Array.replicate 22 none
  statics := none }

def pool3 : Array CpInfo := pool [(1, .methodref 2 3), (0, .class_ 4), (0, .nameAndType 5 6), (0, u "java/lang/Record"), (0, u "<init>"), (0, u "()V"), (0, .fieldref 8 9), (0, .class_ 10), (0, .nameAndType 11 12), (0, u "com/example/cardbench/cardbench/Tone"), (0, u "amplitude"), (0, u "D"), (0, .fieldref 8 14), (0, .nameAndType 15 12), (0, u "phase"), (32, u "(DD)V"), (26, u "()D")] 21

def k3c0 : Code := { maxStack := 3, maxLocals := 5, code := prog_45_method_1_code, exceptionTable := #[], attributes := #[] }
def k3m0 : Method := { name := "<init>", desc := "(DD)V", sig := { parameters := [.double, .double], returnType := none }, accessFlags := 1, code := some k3c0 }
def k3c1 : Code := { maxStack := 2, maxLocals := 1, code := prog_45_method_6_code, exceptionTable := #[], attributes := #[] }
def k3m1 : Method := { name := "amplitude", desc := "()D", sig := { parameters := [], returnType := some .double }, accessFlags := 1, code := some k3c1 }
/-- com/example/cardbench/cardbench/Tone -/
def k3 : Class := { plain "com/example/cardbench/cardbench/Tone" (some 2) with
  accessFlags := 49
  interfaces := #[]
  cf := some (fileOf pool3 8 #[] #[{ accessFlags := 1, nameIndex := 5, descriptorIndex := 48, attributes := #[] }, { accessFlags := 1, nameIndex := 11, descriptorIndex := 75, attributes := #[] }] 49 2 #[] #[{ accessFlags := 18, nameIndex := 11, descriptorIndex := 12, attributes := #[] }, { accessFlags := 18, nameIndex := 15, descriptorIndex := 12, attributes := #[] }])
  fields := #[{ name := "amplitude", type := .double, accessFlags := 18, slot := 0, constantValue := 0 }, { name := "phase", type := .double, accessFlags := 18, slot := 1, constantValue := 0 }]
  methods := #[k3m0, k3m1]
  instanceTypes := #[.double, .double]
  staticTypes := #[]
  resolved := Array.replicate 97 none
  statics := none }

def pool4 : Array CpInfo := pool [(1, .methodref 2 3), (0, .class_ 4), (0, .nameAndType 5 6), (0, u "java/lang/Record"), (0, u "<init>"), (0, u "()V"), (0, .fieldref 8 9), (0, .class_ 10), (0, .nameAndType 11 12), (0, u "com/example/cardbench/cardbench/LoadModulation$Result"), (0, u "samples"), (0, u "I"), (0, .fieldref 8 14), (0, .nameAndType 15 16), (0, u "sampleInterval"), (0, u "D"), (0, .fieldref 8 18), (0, .nameAndType 19 12), (0, u "window"), (0, .fieldref 8 21), (0, .nameAndType 22 23), (0, u "carrier"), (0, u "Lcom/example/cardbench/cardbench/Tone;"), (0, .fieldref 8 25), (0, .nameAndType 26 23), (0, u "upperSideband"), (0, .fieldref 8 28), (0, .nameAndType 29 23), (0, u "lowerSideband"), (0, .methodref 31 32), (0, .class_ 33), (0, .nameAndType 34 35), (0, u "com/example/cardbench/cardbench/Tone"), (0, u "amplitude"), (0, u "()D"), (12, u "(IDILcom/example/cardbench/cardbench/Tone;Lcom/example/cardbench/cardbench/Tone;Lcom/example/cardbench/cardbench/Tone;)V"), (3, u "passes"), (0, u "(D)Z"), (8, .class_ 63), (0, u "com/example/cardbench/cardbench/LoadModulation")] 24

def k4c0 : Code := { maxStack := 3, maxLocals := 8, code := prog_23_method_1_code, exceptionTable := #[], attributes := #[] }
def k4m0 : Method := { name := "<init>", desc := "(IDILcom/example/cardbench/cardbench/Tone;Lcom/example/cardbench/cardbench/Tone;Lcom/example/cardbench/cardbench/Tone;)V", sig := { parameters := [.int, .double, .int, (.object "com/example/cardbench/cardbench/Tone"), (.object "com/example/cardbench/cardbench/Tone"), (.object "com/example/cardbench/cardbench/Tone")], returnType := none }, accessFlags := 1, code := some k4c0 }
def k4c1 : Code := { maxStack := 4, maxLocals := 3, code := prog_23_method_2_code, exceptionTable := #[], attributes := #[] }
def k4m1 : Method := { name := "passes", desc := "(D)Z", sig := { parameters := [.double], returnType := some .boolean }, accessFlags := 1, code := some k4c1 }
/-- com/example/cardbench/cardbench/LoadModulation$Result -/
def k4 : Class := { plain "com/example/cardbench/cardbench/LoadModulation$Result" (some 2) with
  accessFlags := 49
  interfaces := #[]
  cf := some (fileOf pool4 8 #[.nestHost 62] #[{ accessFlags := 1, nameIndex := 5, descriptorIndex := 48, attributes := #[] }, { accessFlags := 1, nameIndex := 52, descriptorIndex := 53, attributes := #[] }] 49 2 #[] #[{ accessFlags := 18, nameIndex := 11, descriptorIndex := 12, attributes := #[] }, { accessFlags := 18, nameIndex := 15, descriptorIndex := 16, attributes := #[] }, { accessFlags := 18, nameIndex := 19, descriptorIndex := 12, attributes := #[] }, { accessFlags := 18, nameIndex := 22, descriptorIndex := 23, attributes := #[] }, { accessFlags := 18, nameIndex := 26, descriptorIndex := 23, attributes := #[] }, { accessFlags := 18, nameIndex := 29, descriptorIndex := 23, attributes := #[] }])
  fields := #[{ name := "samples", type := .int, accessFlags := 18, slot := 0, constantValue := 0 }, { name := "sampleInterval", type := .double, accessFlags := 18, slot := 1, constantValue := 0 }, { name := "window", type := .int, accessFlags := 18, slot := 2, constantValue := 0 }, { name := "carrier", type := (.object "com/example/cardbench/cardbench/Tone"), accessFlags := 18, slot := 3, constantValue := 0 }, { name := "upperSideband", type := (.object "com/example/cardbench/cardbench/Tone"), accessFlags := 18, slot := 4, constantValue := 0 }, { name := "lowerSideband", type := (.object "com/example/cardbench/cardbench/Tone"), accessFlags := 18, slot := 5, constantValue := 0 }]
  methods := #[k4m0, k4m1]
  instanceTypes := #[.int, .double, .int, (.object "com/example/cardbench/cardbench/Tone"), (.object "com/example/cardbench/cardbench/Tone"), (.object "com/example/cardbench/cardbench/Tone")]
  staticTypes := #[]
  resolved := Array.replicate 88 none
  statics := none }

def pool5 : Array CpInfo := pool [(1, u "java/lang/Cloneable"), (0, .class_ 1), (0, u "java/lang/Object"), (0, .class_ 3)] 3

/-- java/lang/Cloneable -/
def k5 : Class := { plain "java/lang/Cloneable" (some 0) with
  accessFlags := 1537
  interfaces := #[]
  cf := some (fileOf pool5 2 #[] #[] 1537 4 #[] #[])
  fields := #[]
  methods := #[]
  instanceTypes := #[]
  staticTypes := #[]
  resolved := Array.replicate 8 none
  statics := none }

def pool6 : Array CpInfo := pool [(1, u "java/io/Serializable"), (0, .class_ 1), (0, u "java/lang/Object"), (0, .class_ 3)] 3

/-- java/io/Serializable -/
def k6 : Class := { plain "java/io/Serializable" (some 0) with
  accessFlags := 1537
  interfaces := #[]
  cf := some (fileOf pool6 2 #[] #[] 1537 4 #[] #[])
  fields := #[]
  methods := #[]
  instanceTypes := #[]
  staticTypes := #[]
  resolved := Array.replicate 8 none
  statics := none }

/-- the primitive byte -/
def k7 : Class := { plain "byte" none with kind := .primitive 'B', accessFlags := 0x411 }
/-- [B -/
def k8 : Class := { plain "[B" (some 0) with kind := .array 7 .byte, interfaces := #[5, 6], accessFlags := 1041 }

/-- the primitive int -/
def k9 : Class := { plain "int" none with kind := .primitive 'I', accessFlags := 0x411 }
/-- [I -/
def k10 : Class := { plain "[I" (some 0) with kind := .array 9 .int, interfaces := #[5, 6], accessFlags := 1041 }

def heap : Heap := #[]
def classes : Array Class := #[k0, k1, k2, k3, k4, k5, k6, k7, k8, k9, k10]
def interned : List (Array UInt16 × Addr) := []
def slotsUsed : Nat := 0
def theMethod : MethodId := ⟨1, 1⟩
def args0 : Array Value := #[.int 1, .int 2, .int 3, .int 4, .int 5, .int 6]
def aboutOver (below : List Frame) : State where
  vm := { classes := classes, interned := interned.toArray }
  heap := heap
  slotsUsed := slotsUsed
  threads := #[{ frames := .invoking theMethod args0 :: below }]
def below0 : List Frame := [.native { method := ⟨0, 0⟩, args := #[] }]
def about1 : State := aboutOver below0
def p0 : Program := .bare "" "" ""
def e0 : Env := launch0.env 0 0 0
theorem w_frames : about1.frames = Frame.invoking theMethod args0 :: below0 := rfl
set_option maxRecDepth 65536 in
theorem w_args : argsFit about1.vm theMethod args0 = true := by decide +kernel
set_option maxRecDepth 65536 in
theorem w_heap : heapFits about1 = true := by decide +kernel
set_option maxRecDepth 65536 in
theorem w_runnable : about1.curStatus? = some .runnable := by decide +kernel
set_option maxRecDepth 65536 in
theorem w_alone : about1.alone = true := by decide +kernel
set_option maxRecDepth 65536 in
theorem w_named : about1.methodNamed? x = some theMethod := by decide +kernel
set_option maxRecDepth 65536 in
theorem w_hears : about1.hears theMethod below0 = true := by decide +kernel
set_option maxRecDepth 65536 in
theorem w_ripe : about1.ripe theMethod args0 below0 = true := by decide +kernel
theorem w_running : about1.status = .running := rfl
set_option maxRecDepth 65536 in
theorem w_room : about1.hasRoom e0.platform room_1 = true :=
  launch0.hasRoom_least _ room_1 (by decide +kernel) (by decide +kernel) (by decide +kernel) (by decide +kernel) (by decide +kernel) (by decide +kernel)
theorem allAtoms_all (ts : List Jvm.Cond) (a : Array Jvm.Value) (st : Jvm.State) : (allAtoms ts).before a st = ts.all (fun c => c.before a st) := by
  induction ts with
  | nil => rfl
  | cons c t ih =>
    show (Jvm.Cond.and c (allAtoms t)).before a st = _
    rw [Jvm.Cond.before_and, ih, List.all_cons]
def words1 : List Jvm.Cond := Jvm.Cond.code x code maxLocals ret :: tables_1
/-- a 'code' word, met by the world's own term for the bytes: nothing is compared byte by byte -/
theorem code_word {y : MethodName} {bytes : ByteArray} {mx : Nat} {rt : Option FieldType} {a : Array Value} {s : State} {m : MethodId} {meth : Method} {c : Code} (h1 : s.methodNamed? y = some m) (h2 : s.vm.method? m = some meth) (h3 : meth.code = some c) (h4 : c.code = bytes)
    (h5 : (c.maxLocals == mx && c.exceptionTable.isEmpty && decide (c.maxStack ≤ mostOperands) && decide (meth.sig.returnType = rt) && !meth.locks && decide (parseMethodDescriptor y.desc = some meth.sig)) = true) : (Jvm.Cond.code y bytes mx rt).before a s = true := by
  simp only [Bool.and_eq_true, beq_iff_eq, Bool.not_eq_true', decide_eq_true_eq] at h5
  obtain ⟨⟨⟨⟨⟨g1, g2⟩, g3⟩, g4⟩, g5⟩, g6⟩ := h5
  simp [Cond.before, Cond.holds, Cond.value, h1, h2, h3, h4, g1, g2, g3, g4, g5, g6]
def isCode : Jvm.Cond → Bool
  | .code _ _ _ _ => true
  | _ => false
theorem all_split {L : List Jvm.Cond} {P : Jvm.Cond → Bool} (h1 : L.all (fun c => isCode c || P c) = true) (h2 : ∀ c ∈ L.filter isCode, P c = true) : L.all P = true := by
  refine List.all_eq_true.mpr fun c hc => ?_
  have h := List.all_eq_true.mp h1 c hc
  rcases Bool.eq_false_or_eq_true (isCode c) with hi | hi
  · exact h2 c (List.mem_filter.mpr ⟨hc, hi⟩)
  · simpa [hi] using h
set_option maxRecDepth 65536 in
theorem w_c0 : (Jvm.Cond.code x code maxLocals ret).before args0 about1 = true := code_word (m := ⟨1, 1⟩) (meth := k1m1) (c := k1c1) (by decide +kernel) rfl rfl rfl (by decide +kernel)
set_option maxRecDepth 65536 in
theorem w_c1 : (Jvm.Cond.code ({ cls := "com/example/cardbench/cardbench/Tone", name := "<init>", desc := "(DD)V" } : Jvm.MethodName) prog_45_method_1_code (5 : Nat) (Option.none : Option Jvm.ClassFile.FieldType)).before args0 about1 = true := code_word (m := ⟨3, 0⟩) (meth := k3m0) (c := k3c0) (by decide +kernel) rfl rfl rfl (by decide +kernel)
set_option maxRecDepth 65536 in
theorem w_c2 : (Jvm.Cond.code ({ cls := "java/lang/Record", name := "<init>", desc := "()V" } : Jvm.MethodName) jdk_30_method_1_code (1 : Nat) (Option.none : Option Jvm.ClassFile.FieldType)).before args0 about1 = true := code_word (m := ⟨2, 0⟩) (meth := k2m0) (c := k2c0) (by decide +kernel) rfl rfl rfl (by decide +kernel)
set_option maxRecDepth 65536 in
theorem w_c3 : (Jvm.Cond.code ({ cls := "java/lang/Object", name := "<init>", desc := "()V" } : Jvm.MethodName) object_method_1_code (1 : Nat) (Option.none : Option Jvm.ClassFile.FieldType)).before args0 about1 = true := code_word (m := ⟨0, 0⟩) (meth := k0m0) (c := k0c0) (by decide +kernel) rfl rfl rfl (by decide +kernel)
set_option maxRecDepth 65536 in
theorem w_c4 : (Jvm.Cond.code ({ cls := "com/example/cardbench/cardbench/LoadModulation$Result", name := "<init>", desc := "(IDILcom/example/cardbench/cardbench/Tone;Lcom/example/cardbench/cardbench/Tone;Lcom/example/cardbench/cardbench/Tone;)V" } : Jvm.MethodName) prog_23_method_1_code (8 : Nat) (Option.none : Option Jvm.ClassFile.FieldType)).before args0 about1 = true := code_word (m := ⟨4, 0⟩) (meth := k4m0) (c := k4c0) (by decide +kernel) rfl rfl rfl (by decide +kernel)
set_option maxRecDepth 65536 in
theorem w_c5 : (Jvm.Cond.code ({ cls := "com/example/cardbench/cardbench/LoadModulation$Result", name := "passes", desc := "(D)Z" } : Jvm.MethodName) prog_23_method_2_code (3 : Nat) (Option.some Jvm.ClassFile.FieldType.boolean)).before args0 about1 = true := code_word (m := ⟨4, 1⟩) (meth := k4m1) (c := k4c1) (by decide +kernel) rfl rfl rfl (by decide +kernel)
set_option maxRecDepth 65536 in
theorem w_c6 : (Jvm.Cond.code ({ cls := "com/example/cardbench/cardbench/Tone", name := "amplitude", desc := "()D" } : Jvm.MethodName) prog_45_method_6_code (1 : Nat) (Option.some Jvm.ClassFile.FieldType.double)).before args0 about1 = true := code_word (m := ⟨3, 1⟩) (meth := k3m1) (c := k3c1) (by decide +kernel) rfl rfl rfl (by decide +kernel)
def codes1 : List Jvm.Cond := [Jvm.Cond.code x code maxLocals ret, Jvm.Cond.code ({ cls := "com/example/cardbench/cardbench/Tone", name := "<init>", desc := "(DD)V" } : Jvm.MethodName) prog_45_method_1_code (5 : Nat) (Option.none : Option Jvm.ClassFile.FieldType), Jvm.Cond.code ({ cls := "java/lang/Record", name := "<init>", desc := "()V" } : Jvm.MethodName) jdk_30_method_1_code (1 : Nat) (Option.none : Option Jvm.ClassFile.FieldType), Jvm.Cond.code ({ cls := "java/lang/Object", name := "<init>", desc := "()V" } : Jvm.MethodName) object_method_1_code (1 : Nat) (Option.none : Option Jvm.ClassFile.FieldType), Jvm.Cond.code ({ cls := "com/example/cardbench/cardbench/LoadModulation$Result", name := "<init>", desc := "(IDILcom/example/cardbench/cardbench/Tone;Lcom/example/cardbench/cardbench/Tone;Lcom/example/cardbench/cardbench/Tone;)V" } : Jvm.MethodName) prog_23_method_1_code (8 : Nat) (Option.none : Option Jvm.ClassFile.FieldType), Jvm.Cond.code ({ cls := "com/example/cardbench/cardbench/LoadModulation$Result", name := "passes", desc := "(D)Z" } : Jvm.MethodName) prog_23_method_2_code (3 : Nat) (Option.some Jvm.ClassFile.FieldType.boolean), Jvm.Cond.code ({ cls := "com/example/cardbench/cardbench/Tone", name := "amplitude", desc := "()D" } : Jvm.MethodName) prog_45_method_6_code (1 : Nat) (Option.some Jvm.ClassFile.FieldType.double)]
set_option maxRecDepth 65536 in
theorem codes_eq : words1.filter isCode = codes1 := rfl
theorem w_codes : ∀ c ∈ words1.filter isCode, c.before args0 about1 = true := by
  rw [codes_eq]
  intro c hc
  simp only [codes1, List.mem_cons, List.not_mem_nil, or_false] at hc
  rcases hc with rfl | rfl | rfl | rfl | rfl | rfl | rfl
  · exact w_c0
  · exact w_c1
  · exact w_c2
  · exact w_c3
  · exact w_c4
  · exact w_c5
  · exact w_c6
set_option maxRecDepth 65536 in
theorem w_t1 : (words1.take 24).all (fun c => isCode c || c.before args0 about1) = true := by decide +kernel
set_option maxRecDepth 65536 in
theorem w_t2 : ((words1.drop 24).take 24).all (fun c => isCode c || c.before args0 about1) = true := by decide +kernel
set_option maxRecDepth 65536 in
theorem w_t3 : ((words1.drop 24).drop 24).all (fun c => isCode c || c.before args0 about1) = true := by decide +kernel
theorem w_tables : (allAtoms (Jvm.Cond.code x code maxLocals ret :: tables_1)).before args0 about1 = true := by
  rw [allAtoms_all]
  show words1.all (fun c => c.before args0 about1) = true
  refine all_split ?_ w_codes
  rw [← List.take_append_drop 24 words1, List.all_append, w_t1, ← List.take_append_drop 24 (words1.drop 24), List.all_append, w_t2, w_t3]
  rfl
set_option maxRecDepth 65536 in
theorem w_case : (Jvm.Cond.and given_1 narrow_1).before args0 about1 = true := by decide +kernel
theorem w_applies : (headSpec (Jvm.Cond.code x code maxLocals ret :: tables_1) room_1).applies x e0.platform about1 = true :=
  (Spec.applies_iff w_frames).mpr ⟨w_running, w_runnable, w_alone, w_named, w_hears, w_ripe, w_room, w_tables⟩
theorem atStart : AtStart classFile x code maxLocals ret World_1 tables_1 room_1 Calls_1 rest_1 Pre_1 launch0 p0 e0 about1 theMethod args0 below0 :=
  ⟨lists_1, trivial, launch0.admits_env _ _ _, launch0.least_env, fairChoices_fair.cas, fairChoices_fair.clock, w_frames, w_args, w_heap, w_applies, trivial, trivial, w_case⟩
end start1
theorem witness_1 : WitnessClaimed_1 := ⟨start1.p0, start1.e0, start1.about1, start1.theMethod, start1.args0, start1.below0, start1.atStart⟩
end Jvm.Pilot.@@N@@
