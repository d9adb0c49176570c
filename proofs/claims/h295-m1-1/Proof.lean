import JvmDerived
import JvmDerived.Pilot.@@N@@Statement
import JvmDerived.Pilot.@@N@@Code
set_option linter.unusedVariables false
set_option linter.unusedSimpArgs false
/- laws to paste: Road.backV (cut by pick.py; bodies as the Statement names them) -/
namespace Jvm.Pilot.@@N@@
namespace StrChars
open Jvm Sem ClassFile Op Lib Jvm.Stand Jvm.Free.XT Jvm.Free.ALB Jvm.Free.JM Jvm.Free
open Jvm.Lib.Cold (StaticIs)
/-- a char array whose places are chars -/
def Ch (a : Addr) (A : Cell) (U : State) : Prop := Arr .char a A U ∧ Typed .char A
theorem Ch.mv {a : Addr} {A : Cell} {U U' : State} (h : Ch a A U) (hal : U.vm.Alike U'.vm) (hh : U'.heap = U.heap) : Ch a A U' := ⟨h.1.mv hal hh, h.2⟩
theorem Ch.keep {a : Addr} {A : Cell} {U U' : State} (h : Ch a A U) (hal : U.vm.Alike U'.vm) (hk : U'.heap[a]? = some A) : Ch a A U' := ⟨h.1.keep hal hk, h.2⟩
/-- what place i of a char[]'s cell holds -/
def cv (A : Cell) (i : Nat) : Int32 := match A.slots[i]? with | some (.int x) => x | _ => 0
theorem Ch.get {a : Addr} {A : Cell} {U : State} (h : Ch a A U) {i : Nat} (hi : i < A.slots.size) : A.slots[i]? = some (.int (cv A i)) := by
  have e := Array.getElem?_eq_getElem hi
  have f := h.2 i _ e
  unfold cv; rw [e]
  generalize A.slots[i] = v at f
  cases v <;> simp [fits] at f ⊢
/-- the byte that i2b leaves of a char -/
def lo8 (x : Int32) : Int32 := x.toInt8.toInt32
theorem fits_lo8 (y : Int32) : fits .byte (.int (lo8 y)) = true := by
  have h1 := y.toInt8.le_toInt
  have h2 := y.toInt8.toInt_lt
  simp only [lo8, fits, Bool.and_eq_true, decide_eq_true_eq, Int32.le_iff_toInt_le, Int8.toInt_toInt32, show (-128 : Int32).toInt = -128 from by decide, show (127 : Int32).toInt = 127 from by decide]
  omega
/-- A' is A but that each place j of lo .. hi - 1 holds f j -/
def Laid (A A' : Cell) (lo hi : Nat) (f : Nat → Value) : Prop := A'.cls = A.cls ∧ A'.vm = A.vm ∧ A'.slots.size = A.slots.size ∧ ∀ i, A'.slots[i]? = if lo ≤ i ∧ i < hi then some (f i) else A.slots[i]?
theorem Laid.zero (A : Cell) (lo : Nat) (f : Nat → Value) : Laid A A lo (lo + 0) f := ⟨rfl, rfl, rfl, fun i => by rw [if_neg (by omega)]⟩
theorem Laid.step {A Ak : Cell} {lo k : Nat} {f : Nat → Value} {v : Value} (h : Laid A Ak lo k f) (hlo : lo ≤ k) (hk : k < Ak.slots.size) (hv : v = f k) : Laid A (Ak.setSlot k v) lo (k + 1) f := by
  refine ⟨h.1, h.2.1, by simpa [Cell.setSlot] using h.2.2.1, fun i => ?_⟩
  by_cases e : k = i
  · subst e; rw [Cell.slots_setSlot_self v hk, if_pos (by omega), hv]
  · rw [Cell.slots_setSlot_ne v e, h.2.2.2 i]
    by_cases q : lo ≤ i ∧ i < k
    · rw [if_pos q, if_pos (by omega)]
    · rw [if_neg q, if_neg (by omega)]
def U16 : String := "java/lang/StringUTF16"
namespace Cmp5
def yN : MethodName := ⟨"java/lang/StringUTF16", "compress", "([CI[BII)I"⟩
abbrev yB : ByteArray := jdk_52_method_21_code
theorem d0 : decode yB 0 = .ok (.iconst 0, 1) := by decide +kernel
theorem d1 : decode yB 1 = .ok (.istore 5, 2) := by decide +kernel
theorem d3 : decode yB 3 = .ok (.iload 5, 2) := by decide +kernel
theorem d5 : decode yB 5 = .ok (.iload 4, 2) := by decide +kernel
theorem d7 : decode yB 7 = .ok (.if_icmp (.ge) 37, 3) := by decide +kernel
theorem d10 : decode yB 10 = .ok (.aload_n 0, 1) := by decide +kernel
theorem d11 : decode yB 11 = .ok (.iload_n 1, 1) := by decide +kernel
theorem d12 : decode yB 12 = .ok (.caload, 1) := by decide +kernel
theorem d13 : decode yB 13 = .ok (.istore 6, 2) := by decide +kernel
theorem d15 : decode yB 15 = .ok (.iload 6, 2) := by decide +kernel
theorem d17 : decode yB 17 = .ok (.sipush 255, 3) := by decide +kernel
theorem d20 : decode yB 20 = .ok (.if_icmp (.le) 6, 3) := by decide +kernel
theorem d26 : decode yB 26 = .ok (.aload_n 2, 1) := by decide +kernel
theorem d27 : decode yB 27 = .ok (.iload_n 3, 1) := by decide +kernel
theorem d28 : decode yB 28 = .ok (.iload 6, 2) := by decide +kernel
theorem d30 : decode yB 30 = .ok (.i2b, 1) := by decide +kernel
theorem d31 : decode yB 31 = .ok (.bastore, 1) := by decide +kernel
theorem d32 : decode yB 32 = .ok (.iinc 1 1, 3) := by decide +kernel
theorem d35 : decode yB 35 = .ok (.iinc 3 1, 3) := by decide +kernel
theorem d38 : decode yB 38 = .ok (.iinc 5 1, 3) := by decide +kernel
theorem d41 : decode yB 41 = .ok (.goto (-38), 3) := by decide +kernel
theorem d44 : decode yB 44 = .ok (.iload 4, 2) := by decide +kernel
theorem d46 : decode yB 46 = .ok (.ireturn, 1) := by decide +kernel
def site : List Cond := []
def tab : Cond := tabOf yN yB 7 (some .int) site
def P (b : Addr) (A : Cell) (d : Addr) (B : Cell) (o q len : Nat) (args : Array Value) (s : State) : Prop := args = #[.ref b, .int (Int32.ofNat o), .ref d, .int (Int32.ofNat q), .int (Int32.ofNat len)] ∧ Ch b A s ∧ Arr .byte d B s ∧ b ≠ d ∧ o + len ≤ A.slots.size ∧ q + len ≤ B.slots.size ∧ ∀ i, i < len → ¬ 255 < cv A (o + i)
def E (b : Addr) (A : Cell) (d : Addr) (B : Cell) (o q len : Nat) (r : Option Value) (s u : State) : Prop := r = some (.int (Int32.ofNat len)) ∧ ∃ B', Put d B' s u ∧ Laid B B' q (q + len) (fun j => Value.int (lo8 (cv A (o + (j - q)))))
/-- no char of the range above 255: len; the places written hold each char's low byte -/
theorem law (l : Launch) (b : Addr) (A : Cell) (d : Addr) (B : Cell) (o q len : Nat) : Law l yN 5 5 0 0 yB 7 (some .int) site (P b A d B o q len) (E b A d B o q len) (copyLocs d q len) 0 0 := by
  refine Law.of_walk (plainFor_of_name (by decide +kernel)) (by decide +kernel) (by decide +kernel) (by decide) (fun _ _ h => by rw [h.1]; rfl) (fun _ U U' hal hh h => ⟨h.1, h.2.1.mv hal hh, h.2.2.1.mv hal hh, h.2.2.2⟩) (fun r U U' V V' h1 hal h2 h => ⟨h.1, h.2.elim fun B' q => ⟨B', q.1.mv h1 h2, q.2⟩⟩) ?_
  intro p e s m args below meth c s₁ X0 hexec hbytes hml hret hlk hnm hown hh0 W hP
  obtain ⟨rfl, hA, hB, hne, l1, l2, hp⟩ := hP
  have c1 : Steps p.tables e below (s₁.setTop (entryFrame m #[.ref b, .int (Int32.ofNat o), .ref d, .int (Int32.ofNat q), .int (Int32.ofNat len)] 7)) (s₁.setTop (mkF m 0 #[.val (.ref b), .val (.int (Int32.ofNat o)), .val (.ref d), .val (.int (Int32.ofNat q)), .val (.int (Int32.ofNat len)), .unset, .unset] [])) := entry rfl
  have hA0 := hA.1.mv X0.warmed.alike hh0
  have hB0 := hB.mv X0.warmed.alike hh0
  have a31 := hA.1.2.2.2
  have c2 : Steps p.tables e below (s₁.setTop (entryFrame m #[.ref b, .int (Int32.ofNat o), .ref d, .int (Int32.ofNat q), .int (Int32.ofNat len)] 7)) (s₁.setTop (mkF m 3 #[.val (.ref b), .val (.int (Int32.ofNat o)), .val (.ref d), .val (.int (Int32.ofNat q)), .val (.int (Int32.ofNat len)), .val (.int 0), .unset] [])) := c1.trans (by
    refine iconstV X0.here hexec rfl 0 (hb hbytes d0) (by decide) ?_
    refine XS.istore X0.here hexec rfl (hb hbytes d1) rfl rfl ?_
    exact Steps.refl _)
  have loop : ∀ (r i : Nat), i + r = len → ∀ (z : Slot), (z = .unset ∨ ∃ w, z = .val w ∧ w.category = 1) → ∀ (Tl : State) (Bk : Cell), Stand p l e { frames := 0, locals := 0, cells := 0, slots := 0 } s m #[.ref b, .int (Int32.ofNat o), .ref d, .int (Int32.ofNat q), .int (Int32.ofNat len)] below meth c Tl ([] ++ copyLocs d q i) 0 0 → Put d Bk s₁ Tl → Laid B Bk q (q + i) (fun j => Value.int (lo8 (cv A (o + (j - q))))) →
      Steps p.tables e below (s₁.setTop (entryFrame m #[.ref b, .int (Int32.ofNat o), .ref d, .int (Int32.ofNat q), .int (Int32.ofNat len)] 7)) (Tl.setTop (mkF m 3 #[.val (.ref b), .val (.int (Int32.ofNat (o + i))), .val (.ref d), .val (.int (Int32.ofNat (q + i))), .val (.int (Int32.ofNat len)), .val (.int (Int32.ofNat i)), z] [])) → ∃ (T' : State) (B' : Cell) (z' : Slot), Stand p l e { frames := 0, locals := 0, cells := 0, slots := 0 } s m #[.ref b, .int (Int32.ofNat o), .ref d, .int (Int32.ofNat q), .int (Int32.ofNat len)] below meth c T' ([] ++ copyLocs d q len) 0 0 ∧ Put d B' s₁ T' ∧ Laid B B' q (q + len) (fun j => Value.int (lo8 (cv A (o + (j - q))))) ∧
      Steps p.tables e below (s₁.setTop (entryFrame m #[.ref b, .int (Int32.ofNat o), .ref d, .int (Int32.ofNat q), .int (Int32.ofNat len)] 7)) (T'.setTop (mkF m 3 #[.val (.ref b), .val (.int (Int32.ofNat (o + len))), .val (.ref d), .val (.int (Int32.ofNat (q + len))), .val (.int (Int32.ofNat len)), .val (.int (Int32.ofNat len)), z'] [])) := by
    intro r
    induction r with
    | zero =>
      intro i hi z hz Tl Bk Xl pl fl cl
      have hil : i = len := by omega
      rw [hil] at Xl fl cl
      exact ⟨Tl, Bk, z, Xl, pl, fl, cl⟩
    | succ r ih =>
      intro i hi z hz Tl Bk Xl pl fl cl
      have all := X0.warmed.alike.symm.trans Xl.warmed.alike
      have hAl := hA0.keep all (pl.other hne hA0.1)
      have hBk := hB0.like all pl.1 fl.1 fl.2.1 fl.2.2.1
      have hlt : q + i < Bk.slots.size := by rw [fl.2.2.1]; omega
      have c3 : Steps p.tables e below (s₁.setTop (entryFrame m #[.ref b, .int (Int32.ofNat o), .ref d, .int (Int32.ofNat q), .int (Int32.ofNat len)] 7)) (Tl.setTop (mkF m 12 #[.val (.ref b), .val (.int (Int32.ofNat (o + i))), .val (.ref d), .val (.int (Int32.ofNat (q + i))), .val (.int (Int32.ofNat len)), .val (.int (Int32.ofNat i)), z] [.int (Int32.ofNat (o + i)), .ref b])) := cl.trans (by
        refine XS.iload Xl.here hexec rfl (hb hbytes d3) rfl ?_
        refine XS.iload Xl.here hexec rfl (hb hbytes d5) rfl ?_
        refine XS.icmpNo Xl.here hexec rfl (hb hbytes d7) rfl (ii_ge_f (lt32 (by omega) (by omega))) ?_
        refine XS.aloadN Xl.here hexec rfl (hb hbytes d10) rfl rfl ?_
        refine XS.iloadN Xl.here hexec rfl (hb hbytes d11) rfl ?_
        exact Steps.refl _)
      have c4 : Steps p.tables e below (s₁.setTop (entryFrame m #[.ref b, .int (Int32.ofNat o), .ref d, .int (Int32.ofNat q), .int (Int32.ofNat len)] 7)) (Tl.setTop (mkF m 13 #[.val (.ref b), .val (.int (Int32.ofNat (o + i))), .val (.ref d), .val (.int (Int32.ofNat (q + i))), .val (.int (Int32.ofNat len)), .val (.int (Int32.ofNat i)), z] [.int (cv A (o + i))])) := c3.trans (by
        refine Xl.aget hexec hAl rfl (hA.get (i := o + i) (by omega)) rfl rfl (hb hbytes d12) ?_
        exact Steps.refl _)
      have c5 : Steps p.tables e below (s₁.setTop (entryFrame m #[.ref b, .int (Int32.ofNat o), .ref d, .int (Int32.ofNat q), .int (Int32.ofNat len)] 7)) (Tl.setTop (mkF m 15 #[.val (.ref b), .val (.int (Int32.ofNat (o + i))), .val (.ref d), .val (.int (Int32.ofNat (q + i))), .val (.int (Int32.ofNat len)), .val (.int (Int32.ofNat i)), .val (.int (cv A (o + i)))] [])) := c4.trans (by
        refine XS.istoreS Xl.here hexec rfl (hb hbytes d13) rfl rfl hz ?_
        exact Steps.refl _)
      have c6 : Steps p.tables e below (s₁.setTop (entryFrame m #[.ref b, .int (Int32.ofNat o), .ref d, .int (Int32.ofNat q), .int (Int32.ofNat len)] 7)) (Tl.setTop (mkF m 31 #[.val (.ref b), .val (.int (Int32.ofNat (o + i))), .val (.ref d), .val (.int (Int32.ofNat (q + i))), .val (.int (Int32.ofNat len)), .val (.int (Int32.ofNat i)), .val (.int (cv A (o + i)))] [.int (lo8 (cv A (o + i))), .int (Int32.ofNat (q + i)), .ref d])) := c5.trans (by
        refine XS.iload Xl.here hexec rfl (hb hbytes d15) rfl ?_
        refine sipushV Xl.here hexec rfl 255 (hb hbytes d17) (by decide) ?_
        refine XS.icmpYes Xl.here hexec rfl (pc0 := 20) rfl (hb hbytes d20) rfl (ii_le_t (hp i (by omega))) (by decide) rfl ?_
        refine XS.aloadN Xl.here hexec rfl (hb hbytes d26) rfl rfl ?_
        refine XS.iloadN Xl.here hexec rfl (hb hbytes d27) rfl ?_
        refine XS.iload Xl.here hexec rfl (hb hbytes d28) rfl ?_
        refine i2b Xl.here hexec rfl (hb hbytes d30) rfl ?_
        exact Steps.refl _)
      obtain ⟨T7, X7, p7, st7⟩ := Xl.aput hexec hBk rfl hlt rfl (fits_lo8 (cv A (o + i))) (g := (mkF m 31 #[.val (.ref b), .val (.int (Int32.ofNat (o + i))), .val (.ref d), .val (.int (Int32.ofNat (q + i))), .val (.int (Int32.ofNat len)), .val (.int (Int32.ofNat i)), .val (.int (cv A (o + i)))] [.int (lo8 (cv A (o + i))), .int (Int32.ofNat (q + i)), .ref d])) rfl (rest := []) rfl (hb hbytes d31)
      have c8 : Steps p.tables e below (s₁.setTop (entryFrame m #[.ref b, .int (Int32.ofNat o), .ref d, .int (Int32.ofNat q), .int (Int32.ofNat len)] 7)) (T7.setTop (mkF m 32 #[.val (.ref b), .val (.int (Int32.ofNat (o + i))), .val (.ref d), .val (.int (Int32.ofNat (q + i))), .val (.int (Int32.ofNat len)), .val (.int (Int32.ofNat i)), .val (.int (cv A (o + i)))] [])) := c6.trans (st7 _ (Steps.refl _))
      have c9 : Steps p.tables e below (s₁.setTop (entryFrame m #[.ref b, .int (Int32.ofNat o), .ref d, .int (Int32.ofNat q), .int (Int32.ofNat len)] 7)) (T7.setTop (mkF m 3 #[.val (.ref b), .val (.int (Int32.ofNat (o + i) + 1)), .val (.ref d), .val (.int (Int32.ofNat (q + i) + 1)), .val (.int (Int32.ofNat len)), .val (.int (Int32.ofNat i + 1)), .val (.int (cv A (o + i)))] [])) := c8.trans (by
        refine iincV X7.here hexec rfl 1 (hb hbytes d32) (by decide) rfl rfl ?_
        refine iincV X7.here hexec rfl 1 (hb hbytes d35) (by decide) rfl rfl ?_
        refine iincV X7.here hexec rfl 1 (hb hbytes d38) (by decide) rfl rfl ?_
        refine XS.goto X7.here hexec rfl (pc0 := 41) rfl (hb hbytes d41) (by decide) rfl ?_
        exact Steps.refl _)
      have c10 : Steps p.tables e below (s₁.setTop (entryFrame m #[.ref b, .int (Int32.ofNat o), .ref d, .int (Int32.ofNat q), .int (Int32.ofNat len)] 7)) (T7.setTop (mkF m 3 #[.val (.ref b), .val (.int (Int32.ofNat (o + (i + 1)))), .val (.ref d), .val (.int (Int32.ofNat (q + (i + 1)))), .val (.int (Int32.ofNat len)), .val (.int (Int32.ofNat (i + 1))), .val (.int (cv A (o + i)))] [])) := by
        have := c9
        rw [succ32, succ32, succ32] at this
        exact this
      exact ih (i + 1) (by omega) _ (Or.inr ⟨_, rfl, rfl⟩) T7 _ (by rw [copyLocs_step, ← List.append_assoc]; exact X7) (pl.trans p7) (fl.step (by omega) hlt (by simp)) c10
  obtain ⟨T9, B9, z9, X9, p9, f9, g9⟩ := loop len 0 (by omega) .unset (Or.inl rfl) s₁ B (by simpa [copyLocs] using X0) ⟨hB0.1, fun _ _ => rfl, rfl⟩ (Laid.zero _ _ _) c2
  have c11 : Steps p.tables e below (s₁.setTop (entryFrame m #[.ref b, .int (Int32.ofNat o), .ref d, .int (Int32.ofNat q), .int (Int32.ofNat len)] 7)) (T9.setTop (mkF m 46 #[.val (.ref b), .val (.int (Int32.ofNat (o + len))), .val (.ref d), .val (.int (Int32.ofNat (q + len))), .val (.int (Int32.ofNat len)), .val (.int (Int32.ofNat len)), z9] [.int (Int32.ofNat len)])) := g9.trans (by
    refine XS.iload X9.here hexec rfl (hb hbytes d3) rfl ?_
    refine XS.iload X9.here hexec rfl (hb hbytes d5) rfl ?_
    refine XS.icmpYes X9.here hexec rfl (pc0 := 7) rfl (hb hbytes d7) rfl (ii_ge_t (nlt32 (by omega) (Nat.le_refl _))) (by decide) rfl ?_
    refine XS.iload X9.here hexec rfl (hb hbytes d44) rfl ?_
    exact Steps.refl _)
  exact ⟨T9, some (.int (Int32.ofNat len)), _, _, _, X9, by simp, rfl, rfl, (fun h => by cases h), ⟨rfl, B9, p9.from hh0, f9⟩, fun fs hl => c11.trans (X9.ireturnOut hexec hret rfl (Or.inl rfl) (hb hbytes d46) hl)⟩
end Cmp5
namespace Cmp3
def yN : MethodName := ⟨"java/lang/StringUTF16", "compress", "([CII)[B"⟩
abbrev yB : ByteArray := jdk_52_method_16_code
theorem d0 : decode yB 0 = .ok (.iload_n 2, 1) := by decide +kernel
theorem d1 : decode yB 1 = .ok (.newarray .byte, 2) := by decide +kernel
theorem d3 : decode yB 3 = .ok (.astore_n 3, 1) := by decide +kernel
theorem d4 : decode yB 4 = .ok (.aload_n 0, 1) := by decide +kernel
theorem d5 : decode yB 5 = .ok (.iload_n 1, 1) := by decide +kernel
theorem d6 : decode yB 6 = .ok (.aload_n 3, 1) := by decide +kernel
theorem d7 : decode yB 7 = .ok (.iconst 0, 1) := by decide +kernel
theorem d8 : decode yB 8 = .ok (.iload_n 2, 1) := by decide +kernel
theorem d9 : decode yB 9 = .ok (.invokestatic 115, 3) := by decide +kernel
theorem d12 : decode yB 12 = .ok (.istore 4, 2) := by decide +kernel
theorem d14 : decode yB 14 = .ok (.iload 4, 2) := by decide +kernel
theorem d16 : decode yB 16 = .ok (.iload_n 2, 1) := by decide +kernel
theorem d17 : decode yB 17 = .ok (.if_icmp (.eq) 40, 3) := by decide +kernel
theorem d57 : decode yB 57 = .ok (.aload_n 3, 1) := by decide +kernel
theorem d58 : decode yB 58 = .ok (.areturn, 1) := by decide +kernel
def site : List Cond := [.arrayClass .byte, Cmp5.tab] ++ staticW U16 115 Cmp5.yN
def tab : Cond := tabOf yN yB 6 (some (.array .byte)) site
def P (b : Addr) (A : Cell) (o len : Nat) (args : Array Value) (s : State) : Prop := args = #[.ref b, .int (Int32.ofNat o), .int (Int32.ofNat len)] ∧ Ch b A s ∧ o + len ≤ A.slots.size ∧ len ≤ 536870912 ∧ ∀ i, i < len → ¬ 255 < cv A (o + i)
def E (b : Addr) (A : Cell) (o len : Nat) (r : Option Value) (s u : State) : Prop := NewArr .byte "[B" len (fun j => .int (lo8 (cv A (o + j)))) r s u ∧ u.heap.size = s.heap.size + 1
/-- no char of the range above 255: a new byte[] of their low bytes -/
theorem law (l : Launch) (b : Addr) (A : Cell) (o len : Nat) : Law l yN 3 3 1 18 yB 6 (some (.array .byte)) site (P b A o len) (E b A o len) [] 1 len := by
  refine Law.of_walk (plainFor_of_name (by decide +kernel)) (by decide +kernel) (by decide +kernel) (by decide) (fun _ _ h => by rw [h.1]; rfl) (fun _ U U' hal hh h => ⟨h.1, h.2.1.mv hal hh, h.2.2⟩) (fun r U U' V V' h1 hal h2 h => ⟨NewArr.mv r U U' V V' h1 hal h2 h.1, by rw [h1, h2]; exact h.2⟩) ?_
  intro p e s m args below meth c s₁ X0 hexec hbytes hml hret hlk hnm hown hh0 W hP
  obtain ⟨rfl, hA, l1, l2, hp⟩ := hP
  have a31 := hA.1.2.2.2
  have c1 : Steps p.tables e below (s₁.setTop (entryFrame m #[.ref b, .int (Int32.ofNat o), .int (Int32.ofNat len)] 6)) (s₁.setTop (mkF m 0 #[.val (.ref b), .val (.int (Int32.ofNat o)), .val (.int (Int32.ofNat len)), .unset, .unset, .unset] [])) := entry rfl
  have c2 : Steps p.tables e below (s₁.setTop (entryFrame m #[.ref b, .int (Int32.ofNat o), .int (Int32.ofNat len)] 6)) (s₁.setTop (mkF m 1 #[.val (.ref b), .val (.int (Int32.ofNat o)), .val (.int (Int32.ofNat len)), .unset, .unset, .unset] [.int (Int32.ofNat len)])) := c1.trans (by
    refine XS.iloadN X0.here hexec rfl (hb hbytes d0) rfl ?_
    exact Steps.refl _)
  obtain ⟨T3, B3, X3, ba3, bs3, bv3, bh3, bf3, st3⟩ := X0.anew hexec (atype := .byte) (wk W (.arrayClass .byte)) rfl (by show len * 1 ≤ _; omega) (by omega) (g := (mkF m 1 #[.val (.ref b), .val (.int (Int32.ofNat o)), .val (.int (Int32.ofNat len)), .unset, .unset, .unset] [.int (Int32.ofNat len)])) rfl (hb hbytes d1) (rest := []) rfl (Nat.le_refl _) (by show 0 + len ≤ len; omega)
  rw [hh0] at ba3 st3
  have kp3 : XT.Kept s T3 := (XT.Kept.of_eq hh0).push bh3
  have hA3 := hA.keep X3.warmed.alike (kp3 _ _ hA.1.1)
  have hne : b ≠ s.heap.size := hA.1.ne
  have c4 : Steps p.tables e below (s₁.setTop (entryFrame m #[.ref b, .int (Int32.ofNat o), .int (Int32.ofNat len)] 6)) (T3.setTop (mkF m 3 #[.val (.ref b), .val (.int (Int32.ofNat o)), .val (.int (Int32.ofNat len)), .unset, .unset, .unset] [.ref s.heap.size])) := c2.trans (st3 _ (Steps.refl _))
  have c5 : Steps p.tables e below (s₁.setTop (entryFrame m #[.ref b, .int (Int32.ofNat o), .int (Int32.ofNat len)] 6)) (T3.setTop (mkF m 9 #[.val (.ref b), .val (.int (Int32.ofNat o)), .val (.int (Int32.ofNat len)), .val (.ref s.heap.size), .unset, .unset] [.int (Int32.ofNat len), .int 0, .ref s.heap.size, .int (Int32.ofNat o), .ref b])) := c4.trans (by
    refine XS.astoreN X3.here hexec rfl (hb hbytes d3) rfl rfl rfl ?_
    refine XS.aloadN X3.here hexec rfl (hb hbytes d4) rfl rfl ?_
    refine XS.iloadN X3.here hexec rfl (hb hbytes d5) rfl ?_
    refine XS.aloadN X3.here hexec rfl (hb hbytes d6) rfl rfl ?_
    refine iconstV X3.here hexec rfl 0 (hb hbytes d7) (by decide) ?_
    refine XS.iloadN X3.here hexec rfl (hb hbytes d8) rfl ?_
    exact Steps.refl _)
  obtain ⟨v6, T6, X6, E6, g6⟩ := X3.callS hexec (Cmp5.law l b A s.heap.size B3 o 0 len) hown (wks W (staticW U16 115 Cmp5.yN)) (wk W Cmp5.tab) (W := 0) (Nat.le_of_ble_eq_true rfl) (Nat.le_of_ble_eq_true rfl) (Nat.le_refl _) (by show 0 + len + 0 ≤ len; omega) (g := (mkF m 9 #[.val (.ref b), .val (.int (Int32.ofNat o)), .val (.int (Int32.ofNat len)), .val (.ref s.heap.size), .unset, .unset] [.int (Int32.ofNat len), .int (Int32.ofNat 0), .ref s.heap.size, .int (Int32.ofNat o), .ref b])) rfl (by rw [hml]; rfl) c5 (argsL := [.ref b, .int (Int32.ofNat o), .ref s.heap.size, .int (Int32.ofNat 0), .int (Int32.ofNat len)]) (rest := []) rfl rfl (by show 2 * 0 + 0 ≤ _; decide) (hb hbytes d9) (⟨rfl, hA3, ba3, hne, l1, by rw [bs3]; simp, hp⟩)
  obtain ⟨rfl, B6, p6, f6⟩ := E6
  have c7 : Steps p.tables e below (s₁.setTop (entryFrame m #[.ref b, .int (Int32.ofNat o), .int (Int32.ofNat len)] 6)) (T6.setTop (mkF m 12 #[.val (.ref b), .val (.int (Int32.ofNat o)), .val (.int (Int32.ofNat len)), .val (.ref s.heap.size), .unset, .unset] [.int (Int32.ofNat len)])) := g6
  have c8 : Steps p.tables e below (s₁.setTop (entryFrame m #[.ref b, .int (Int32.ofNat o), .int (Int32.ofNat len)] 6)) (T6.setTop (mkF m 58 #[.val (.ref b), .val (.int (Int32.ofNat o)), .val (.int (Int32.ofNat len)), .val (.ref s.heap.size), .val (.int (Int32.ofNat len)), .unset] [.ref s.heap.size])) := c7.trans (by
    refine XS.istore X6.here hexec rfl (hb hbytes d12) rfl rfl ?_
    refine XS.iload X6.here hexec rfl (hb hbytes d14) rfl ?_
    refine XS.iloadN X6.here hexec rfl (hb hbytes d16) rfl ?_
    refine XS.icmpYes X6.here hexec rfl (pc0 := 17) rfl (hb hbytes d17) rfl (ii_eq_t rfl) (by decide) rfl ?_
    refine XS.aloadN X6.here hexec rfl (hb hbytes d57) rfl rfl ?_
    exact Steps.refl _)
  have X8 := X6.wide (L' := []) (cells' := 1) (slots' := len) (fun x hx hlt => by
    simp only [List.nil_append, copyLocs, List.mem_map, List.mem_range] at hx
    obtain ⟨i, -, rfl⟩ := hx
    exact absurd hlt (Nat.lt_irrefl _)) (Nat.le_refl _) (by omega)
  exact ⟨T6, some (.ref s.heap.size), _, _, _, X8, rfl, rfl, rfl, (fun h => by cases h), ⟨⟨rfl, B6, ba3.like (X3.warmed.alike.symm.trans X6.warmed.alike) p6.1 f6.1 f6.2.1 f6.2.2.1, f6.2.1.trans bv3, by rw [X6.warmed.alike.findClass, f6.1]; exact bf3, by rw [f6.2.2.1, bs3]; simp, fun j hj => by rw [f6.2.2.2 j, if_pos (by omega)]; rfl, kp3.put p6 (Nat.le_refl _)⟩, by rw [p6.2.2, bh3, hh0]; simp⟩, fun fs hl => c8.trans (X8.areturnOut hexec rfl hret rfl (hb hbytes d58) hl)⟩
end Cmp3
namespace CodL
def yN : MethodName := ⟨"java/lang/StringUTF16", "coderFromArrayLen", "([BI)B"⟩
abbrev yB : ByteArray := jdk_52_method_15_code
theorem d0 : decode yB 0 = .ok (.iload_n 1, 1) := by decide +kernel
theorem d1 : decode yB 1 = .ok (.aload_n 0, 1) := by decide +kernel
theorem d2 : decode yB 2 = .ok (.arraylength, 1) := by decide +kernel
theorem d3 : decode yB 3 = .ok (.isub, 1) := by decide +kernel
theorem d4 : decode yB 4 = .ok (.bipush 31, 2) := by decide +kernel
theorem d6 : decode yB 6 = .ok (.iushr, 1) := by decide +kernel
theorem d7 : decode yB 7 = .ok (.i2b, 1) := by decide +kernel
theorem d8 : decode yB 8 = .ok (.ireturn, 1) := by decide +kernel
def site : List Cond := []
def tab : Cond := tabOf yN yB 2 (some .byte) site
def P (d : Addr) (B : Cell) (args : Array Value) (s : State) : Prop := args = #[.ref d, .int (Int32.ofNat B.slots.size)] ∧ Arr .byte d B s
def E (r : Option Value) (s u : State) : Prop := XT.PureE (some (.int 0)) r s u
/-- an array as long as the number of chars: LATIN1 -/
theorem law (l : Launch) (d : Addr) (B : Cell) : Law l yN 2 2 0 0 yB 2 (some .byte) site (P d B) E [] 0 0 := by
  refine Law.of_walk (plainFor_of_name (by decide +kernel)) (by decide +kernel) (by decide +kernel) (by decide) (fun _ _ h => by rw [h.1]; rfl) (fun _ U U' hal hh h => ⟨h.1, h.2.mv hal hh⟩) (fun r U U' V V' h1 hal h2 h => XT.PureE.mv r U U' V V' h1 hal h2 h) ?_
  intro p e s m args below meth c s₁ X0 hexec hbytes hml hret hlk hnm hown hh0 W hP
  obtain ⟨rfl, hB⟩ := hP
  have hB0 := hB.mv X0.warmed.alike hh0
  have c1 : Steps p.tables e below (s₁.setTop (entryFrame m #[.ref d, .int (Int32.ofNat B.slots.size)] 2)) (s₁.setTop (mkF m 0 #[.val (.ref d), .val (.int (Int32.ofNat B.slots.size))] [])) := entry rfl
  have c2 : Steps p.tables e below (s₁.setTop (entryFrame m #[.ref d, .int (Int32.ofNat B.slots.size)] 2)) (s₁.setTop (mkF m 2 #[.val (.ref d), .val (.int (Int32.ofNat B.slots.size))] [.ref d, .int (Int32.ofNat B.slots.size)])) := c1.trans (by
    refine XS.iloadN X0.here hexec rfl (hb hbytes d0) rfl ?_
    refine XS.aloadN X0.here hexec rfl (hb hbytes d1) rfl rfl ?_
    exact Steps.refl _)
  have c3 : Steps p.tables e below (s₁.setTop (entryFrame m #[.ref d, .int (Int32.ofNat B.slots.size)] 2)) (s₁.setTop (mkF m 8 #[.val (.ref d), .val (.int (Int32.ofNat B.slots.size))] [.int (lo8 (ushr (Int32.ofNat B.slots.size - Int32.ofNat B.slots.size) 31))])) := c2.trans (by
    refine X0.alen hexec hB0 rfl rfl (hb hbytes d2) ?_
    refine XS.isub X0.here hexec rfl (hb hbytes d3) rfl ?_
    refine bipushV X0.here hexec rfl 31 (hb hbytes d4) (by decide) ?_
    refine iushr X0.here hexec rfl (hb hbytes d6) rfl ?_
    refine i2b X0.here hexec rfl (hb hbytes d7) rfl ?_
    exact Steps.refl _)
  have e0 : lo8 (ushr (Int32.ofNat B.slots.size - Int32.ofNat B.slots.size) 31) = 0 := by rw [Int32.sub_self]; decide
  rw [e0] at c3
  exact ⟨s₁, some (.int 0), _, _, _, X0, rfl, rfl, rfl, (fun h => by cases h), ⟨rfl, hh0⟩, fun fs hl => c3.trans (X0.ireturnOut hexec hret rfl (Or.inr (Or.inr (Or.inl rfl))) (hb hbytes d8) hl)⟩
end CodL
/-- the String at a is Latin-1 over a new byte[] (the heap's one new cell): the low bytes of the len chars of A from o on; every cell but a is kept -/
def Got (a : Addr) (D : Cell) (fV fC : Field) (A : Cell) (o len : Nat) (r : Option Value) (s u : State) : Prop := r = none ∧ ∃ D' V : Cell, Blank "java/lang/String" a D' u ∧ Same D D' [fV.slot, fC.slot] ∧ D'.slots[fV.slot]? = some (.ref s.heap.size) ∧ D'.slots[fC.slot]? = some (.int 0) ∧ Arr .byte s.heap.size V u ∧ V.vm = .none ∧ u.vm.findClass "[B" = some V.cls ∧ V.slots.size = len ∧ (∀ j, j < len → V.slots[j]? = some (.int (lo8 (cv A (o + j))))) ∧ (∀ (y : Addr) (c : Cell), y ≠ a → s.heap[y]? = some c → u.heap[y]? = some c) ∧ u.heap.size = s.heap.size + 1
theorem Got.mv {a : Addr} {D A : Cell} {fV fC : Field} {o len : Nat} : ∀ r (U U' V V' : State), U'.heap = U.heap → V.vm.Alike V'.vm → V'.heap = V.heap → Got a D fV fC A o len r U V → Got a D fV fC A o len r U' V' :=
  fun r U U' V V' h1 hal h2 ⟨e0, D', X, a1, a2, a3, a4, a5, a6, a7, a8, a9, a10, a11⟩ => ⟨e0, D', X, a1.mv hal h2, a2, by rw [h1]; exact a3, a4, by rw [h1]; exact a5.mv hal h2, a6, by rw [hal.findClass]; exact a7, a8, a9, by rw [h1, h2]; exact a10, by rw [h1, h2]; exact a11⟩
namespace New4
def yN : MethodName := ⟨"java/lang/String", "<init>", "([CIILjava/lang/Void;)V"⟩
abbrev yB : ByteArray := jdk_42_method_149_code
theorem d0 : decode yB 0 = .ok (.aload_n 0, 1) := by decide +kernel
theorem d1 : decode yB 1 = .ok (.invokespecial 1, 3) := by decide +kernel
theorem d4 : decode yB 4 = .ok (.iload_n 3, 1) := by decide +kernel
theorem d5 : decode yB 5 = .ok (.ifCond (.ne) 22, 3) := by decide +kernel
theorem d27 : decode yB 27 = .ok (.getstatic 38, 3) := by decide +kernel
theorem d30 : decode yB 30 = .ok (.ifCond (.eq) 28, 3) := by decide +kernel
theorem d33 : decode yB 33 = .ok (.aload_n 1, 1) := by decide +kernel
theorem d34 : decode yB 34 = .ok (.iload_n 2, 1) := by decide +kernel
theorem d35 : decode yB 35 = .ok (.iload_n 3, 1) := by decide +kernel
theorem d36 : decode yB 36 = .ok (.invokestatic 177, 3) := by decide +kernel
theorem d39 : decode yB 39 = .ok (.astore 5, 2) := by decide +kernel
theorem d41 : decode yB 41 = .ok (.aload_n 0, 1) := by decide +kernel
theorem d42 : decode yB 42 = .ok (.aload 5, 2) := by decide +kernel
theorem d44 : decode yB 44 = .ok (.iload_n 3, 1) := by decide +kernel
theorem d45 : decode yB 45 = .ok (.invokestatic 47, 3) := by decide +kernel
theorem d48 : decode yB 48 = .ok (.putfield 15, 3) := by decide +kernel
theorem d51 : decode yB 51 = .ok (.aload_n 0, 1) := by decide +kernel
theorem d52 : decode yB 52 = .ok (.aload 5, 2) := by decide +kernel
theorem d54 : decode yB 54 = .ok (.putfield 9, 3) := by decide +kernel
theorem d57 : decode yB 57 = .ok (.return_, 1) := by decide +kernel
def site : List Cond := [.fieldLink "java/lang/String" 38 "java/lang/String" "COMPACT_STRINGS" "Z", Cmp3.tab, CodL.tab, .laysFinal "java/lang/String" "java/lang/String" "value" "[B", .fieldLink "java/lang/String" 9 "java/lang/String" "value" "[B", .laysFinal "java/lang/String" "java/lang/String" "coder" "B", .fieldLink "java/lang/String" 15 "java/lang/String" "coder" "B"] ++ objW "java/lang/String" 1 ++ staticW "java/lang/String" 177 Cmp3.yN ++ staticW "java/lang/String" 47 CodL.yN
def tab : Cond := tabOf yN yB 6 none site
def P (a : Addr) (D : Cell) (fV fC : Field) (b : Addr) (A : Cell) (z : Int32) (o len : Nat) (args : Array Value) (s : State) : Prop := args = #[.ref a, .ref b, .int (Int32.ofNat o), .int (Int32.ofNat len), .null] ∧ Blank "java/lang/String" a D s ∧ Found "java/lang/String" "value" "[B" fV s ∧ Found "java/lang/String" "coder" "B" fC s ∧ Ch b A s ∧ StaticIs s "java/lang/String" "COMPACT_STRINGS" "Z" (.int z) ∧ ¬ z = 0 ∧ 0 < len ∧ o + len ≤ A.slots.size ∧ len ≤ 536870912 ∧ ∀ i, i < len → ¬ 255 < cv A (o + i)
def E (a : Addr) (D : Cell) (fV fC : Field) (A : Cell) (o len : Nat) (r : Option Value) (s u : State) : Prop := Got a D fV fC A o len r s u
/-- len > 0, no char of the range above 255: a Latin-1 String of their low bytes -/
theorem law (l : Launch) (a : Addr) (D : Cell) (fV fC : Field) (b : Addr) (A : Cell) (z : Int32) (o len : Nat) : Law l yN 5 4 2 35 yB 6 none site (P a D fV fC b A z o len) (E a D fV fC A o len) [⟨a, fC.slot⟩, ⟨a, fV.slot⟩] 1 len := by
  refine Law.of_walk (plainFor_of_name (by decide +kernel)) (by decide +kernel) (by decide +kernel) (by decide) (fun _ _ h => by rw [h.1]; rfl) (fun _ U U' hal hh h => ⟨h.1, h.2.1.mv hal hh, h.2.2.1.al hal, h.2.2.2.1.al hal, h.2.2.2.2.1.mv hal hh, h.2.2.2.2.2.1.there hal hh, h.2.2.2.2.2.2⟩) (fun r U U' V V' h1 hal h2 h => Got.mv r U U' V V' h1 hal h2 h) ?_
  intro p e s m args below meth c s₁ X0 hexec hbytes hml hret hlk hnm hown hh0 W hP
  obtain ⟨rfl, hB, f1, f2, hA, s1, hz, l0, l1, l2, hp⟩ := hP
  have a31 := hA.1.2.2.2
  have c1 : Steps p.tables e below (s₁.setTop (entryFrame m #[.ref a, .ref b, .int (Int32.ofNat o), .int (Int32.ofNat len), .null] 6)) (s₁.setTop (mkF m 0 #[.val (.ref a), .val (.ref b), .val (.int (Int32.ofNat o)), .val (.int (Int32.ofNat len)), .val .null, .unset] [])) := entry rfl
  have c2 : Steps p.tables e below (s₁.setTop (entryFrame m #[.ref a, .ref b, .int (Int32.ofNat o), .int (Int32.ofNat len), .null] 6)) (s₁.setTop (mkF m 1 #[.val (.ref a), .val (.ref b), .val (.int (Int32.ofNat o)), .val (.int (Int32.ofNat len)), .val .null, .unset] [.ref a])) := c1.trans (by
    refine XS.aloadN X0.here hexec rfl (hb hbytes d0) rfl rfl ?_
    exact Steps.refl _)
  obtain ⟨T3, X3, q3, st3⟩ := X0.oinit hexec hown (wks W (objW "java/lang/String" 1)) (g := (mkF m 1 #[.val (.ref a), .val (.ref b), .val (.int (Int32.ofNat o)), .val (.int (Int32.ofNat len)), .val .null, .unset] [.ref a])) rfl (by rw [hml]; rfl) (rest := []) rfl (hb hbytes d1) (W := 0) (by show 2 * 0 + 0 ≤ _; decide) (Nat.le_of_ble_eq_true rfl) (Nat.le_of_ble_eq_true rfl)
  have hh3 := q3.trans hh0
  have c4 : Steps p.tables e below (s₁.setTop (entryFrame m #[.ref a, .ref b, .int (Int32.ofNat o), .int (Int32.ofNat len), .null] 6)) (T3.setTop (mkF m 27 #[.val (.ref a), .val (.ref b), .val (.int (Int32.ofNat o)), .val (.int (Int32.ofNat len)), .val .null, .unset] [])) := (c2.trans (st3 _ (Steps.refl _))).trans (by
    refine XS.iloadN X3.here hexec rfl (hb hbytes d4) rfl ?_
    refine XS.ifYes X3.here hexec rfl (pc0 := 5) rfl (hb hbytes d5) rfl (i0_ne_t (nz32 (by omega) l0)) (by decide) rfl ?_
    exact Steps.refl _)
  obtain ⟨T5, X5, q5, st5⟩ := X3.sget hexec hown (wk W (.fieldLink "java/lang/String" 38 "java/lang/String" "COMPACT_STRINGS" "Z")) s1 (fun _ _ h => by rw [hh3]; exact h) (g := (mkF m 27 #[.val (.ref a), .val (.ref b), .val (.int (Int32.ofNat o)), .val (.int (Int32.ofNat len)), .val .null, .unset] [])) rfl (hb hbytes d27)
  have hh5 := q5.trans hh3
  have c6 : Steps p.tables e below (s₁.setTop (entryFrame m #[.ref a, .ref b, .int (Int32.ofNat o), .int (Int32.ofNat len), .null] 6)) (T5.setTop (mkF m 30 #[.val (.ref a), .val (.ref b), .val (.int (Int32.ofNat o)), .val (.int (Int32.ofNat len)), .val .null, .unset] [.int z])) := c4.trans (st5 _ (Steps.refl _))
  have c7 : Steps p.tables e below (s₁.setTop (entryFrame m #[.ref a, .ref b, .int (Int32.ofNat o), .int (Int32.ofNat len), .null] 6)) (T5.setTop (mkF m 36 #[.val (.ref a), .val (.ref b), .val (.int (Int32.ofNat o)), .val (.int (Int32.ofNat len)), .val .null, .unset] [.int (Int32.ofNat len), .int (Int32.ofNat o), .ref b])) := c6.trans (by
    refine XS.ifNo X5.here hexec rfl (hb hbytes d30) rfl (i0_eq_f hz) ?_
    refine XS.aloadN X5.here hexec rfl (hb hbytes d33) rfl rfl ?_
    refine XS.iloadN X5.here hexec rfl (hb hbytes d34) rfl ?_
    refine XS.iloadN X5.here hexec rfl (hb hbytes d35) rfl ?_
    exact Steps.refl _)
  obtain ⟨v8, T8, X8, E8, g8⟩ := X5.callS hexec (Cmp3.law l b A o len) hown (wks W (staticW "java/lang/String" 177 Cmp3.yN)) (wk W Cmp3.tab) (W := 0) (Nat.le_of_ble_eq_true rfl) (Nat.le_of_ble_eq_true rfl) (Nat.le_refl _) (by show 0 + len ≤ len; omega) (g := (mkF m 36 #[.val (.ref a), .val (.ref b), .val (.int (Int32.ofNat o)), .val (.int (Int32.ofNat len)), .val .null, .unset] [.int (Int32.ofNat len), .int (Int32.ofNat o), .ref b])) rfl (by rw [hml]; rfl) c7 (argsL := [.ref b, .int (Int32.ofNat o), .int (Int32.ofNat len)]) (rest := []) rfl rfl (by show 2 * 0 + 0 ≤ _; decide) (hb hbytes d36) (⟨rfl, hA.mv X5.warmed.alike hh5, l1, l2, hp⟩)
  obtain ⟨e8, z8⟩ := E8
  obtain ⟨rfl, N, n1, n2, n3, n4, n5, n6⟩ := NewArr.mv _ T5 s _ _ hh5.symm (Vm.Alike.refl _) rfl e8
  rw [hh5] at z8
  have hB1 := hB.keep X8.warmed.alike (n6 _ _ hB.1)
  have hne : s.heap.size ≠ a := (Nat.ne_of_lt (Array.getElem?_eq_some_iff.mp hB.1).1).symm
  have c9 : Steps p.tables e below (s₁.setTop (entryFrame m #[.ref a, .ref b, .int (Int32.ofNat o), .int (Int32.ofNat len), .null] 6)) (T8.setTop (mkF m 39 #[.val (.ref a), .val (.ref b), .val (.int (Int32.ofNat o)), .val (.int (Int32.ofNat len)), .val .null, .unset] [.ref s.heap.size])) := g8
  have c10 : Steps p.tables e below (s₁.setTop (entryFrame m #[.ref a, .ref b, .int (Int32.ofNat o), .int (Int32.ofNat len), .null] 6)) (T8.setTop (mkF m 45 #[.val (.ref a), .val (.ref b), .val (.int (Int32.ofNat o)), .val (.int (Int32.ofNat len)), .val .null, .val (.ref s.heap.size)] [.int (Int32.ofNat N.slots.size), .ref s.heap.size, .ref a])) := by
    have hc : Steps p.tables e below (s₁.setTop (entryFrame m #[.ref a, .ref b, .int (Int32.ofNat o), .int (Int32.ofNat len), .null] 6)) (T8.setTop (mkF m 45 #[.val (.ref a), .val (.ref b), .val (.int (Int32.ofNat o)), .val (.int (Int32.ofNat len)), .val .null, .val (.ref s.heap.size)] [.int (Int32.ofNat len), .ref s.heap.size, .ref a])) := c9.trans (by
      refine XS.astore X8.here hexec rfl (hb hbytes d39) rfl rfl rfl ?_
      refine XS.aloadN X8.here hexec rfl (hb hbytes d41) rfl rfl ?_
      refine XS.aload X8.here hexec rfl (hb hbytes d42) rfl rfl ?_
      refine XS.iloadN X8.here hexec rfl (hb hbytes d44) rfl ?_
      exact Steps.refl _)
    rw [n4]; exact hc
  obtain ⟨v11, T11, X11, E11, g11⟩ := X8.callS hexec (CodL.law l s.heap.size N) hown (wks W (staticW "java/lang/String" 47 CodL.yN)) (wk W CodL.tab) (W := 1) (Nat.le_of_ble_eq_true rfl) (Nat.le_of_ble_eq_true rfl) (Nat.le_refl _) (by show 0 + len + 0 ≤ len; omega) (g := (mkF m 45 #[.val (.ref a), .val (.ref b), .val (.int (Int32.ofNat o)), .val (.int (Int32.ofNat len)), .val .null, .val (.ref s.heap.size)] [.int (Int32.ofNat N.slots.size), .ref s.heap.size, .ref a])) rfl (by rw [hml]; rfl) c10 (argsL := [.ref s.heap.size, .int (Int32.ofNat N.slots.size)]) (rest := [.ref a]) rfl rfl (by show 2 * 0 + (1 + 0) ≤ _; decide) (hb hbytes d45) (⟨rfl, n1⟩)
  obtain ⟨rfl, q11⟩ := E11
  have hB11 := hB1.mv (X8.warmed.alike.symm.trans X11.warmed.alike) q11
  have c12 : Steps p.tables e below (s₁.setTop (entryFrame m #[.ref a, .ref b, .int (Int32.ofNat o), .int (Int32.ofNat len), .null] 6)) (T11.setTop (mkF m 48 #[.val (.ref a), .val (.ref b), .val (.int (Int32.ofNat o)), .val (.int (Int32.ofNat len)), .val .null, .val (.ref s.heap.size)] [.int 0, .ref a])) := g11
  obtain ⟨T13, X13, p13, bl13, sl13, st13⟩ := X11.finit hexec hown (wk W (.fieldLink "java/lang/String" 15 "java/lang/String" "coder" "B")) (Or.inr ⟨_, (wk W (.laysFinal "java/lang/String" "java/lang/String" "coder" "B"))⟩) (Or.inl ⟨rfl, hnm⟩) f2 (Or.inl rfl) hB11 (t := .byte) (by decide +kernel) rfl (g := (mkF m 48 #[.val (.ref a), .val (.ref b), .val (.int (Int32.ofNat o)), .val (.int (Int32.ofNat len)), .val .null, .val (.ref s.heap.size)] [.int 0, .ref a])) rfl (rest := []) rfl (hb hbytes d48)
  have c14 : Steps p.tables e below (s₁.setTop (entryFrame m #[.ref a, .ref b, .int (Int32.ofNat o), .int (Int32.ofNat len), .null] 6)) (T13.setTop (mkF m 54 #[.val (.ref a), .val (.ref b), .val (.int (Int32.ofNat o)), .val (.int (Int32.ofNat len)), .val .null, .val (.ref s.heap.size)] [.ref s.heap.size, .ref a])) := (c12.trans (st13 _ (Steps.refl _))).trans (by
    refine XS.aloadN X13.here hexec rfl (hb hbytes d51) rfl rfl ?_
    refine XS.aload X13.here hexec rfl (hb hbytes d52) rfl rfl ?_
    exact Steps.refl _)
  obtain ⟨T15, X15, p15, bl15, sl15, st15⟩ := X13.finit hexec hown (wk W (.fieldLink "java/lang/String" 9 "java/lang/String" "value" "[B")) (Or.inr ⟨_, (wk W (.laysFinal "java/lang/String" "java/lang/String" "value" "[B"))⟩) (Or.inl ⟨rfl, hnm⟩) f1 (Or.inl rfl) bl13 (t := (.array .byte)) (by decide +kernel) rfl (g := (mkF m 54 #[.val (.ref a), .val (.ref b), .val (.int (Int32.ofNat o)), .val (.int (Int32.ofNat len)), .val .null, .val (.ref s.heap.size)] [.ref s.heap.size, .ref a])) rfl (rest := []) rfl (hb hbytes d54)
  have c16 : Steps p.tables e below (s₁.setTop (entryFrame m #[.ref a, .ref b, .int (Int32.ofNat o), .int (Int32.ofNat len), .null] 6)) (T15.setTop (mkF m 57 #[.val (.ref a), .val (.ref b), .val (.int (Int32.ofNat o)), .val (.int (Int32.ofNat len)), .val .null, .val (.ref s.heap.size)] [])) := c14.trans (st15 _ (Steps.refl _))
  have ap := apart (Or.inr ⟨_, (wk W (.laysFinal "java/lang/String" "java/lang/String" "value" "[B"))⟩) (Or.inr ⟨_, (wk W (.laysFinal "java/lang/String" "java/lang/String" "coder" "B"))⟩) f1 f2 (t₁ := .array .byte) (t₂ := .byte) (by decide +kernel) (by decide +kernel) (by decide)
  have al := X8.warmed.alike.symm.trans X15.warmed.alike
  have n7 : T11.heap[s.heap.size]? = some N := by rw [q11]; exact n1.1
  exact ⟨T15, none, _, _, _, X15, by simp, rfl, by omega, (fun _ => rfl), ⟨rfl, _, N, bl15, ((Same.refl D _).set _ (by simp)).set _ (by simp), sl15, (Cell.slots_setSlot_ne _ ap).trans sl13, n1.keep al (p15.other hne (p13.other hne n7)), n2, by rw [al.findClass]; exact n3, n4, n5, fun y c h1 h2 => p15.other h1 (p13.other h1 (by rw [q11]; exact n6 y c h2)), by rw [p15.2.2, p13.2.2, q11]; exact z8⟩, fun fs hl => c16.trans (X15.returnOut hexec hret (hb hbytes d57) hl)⟩
end New4
namespace New1
def yN : MethodName := ⟨"java/lang/String", "<init>", "([C)V"⟩
abbrev yB : ByteArray := jdk_42_method_3_code
theorem d0 : decode yB 0 = .ok (.aload_n 0, 1) := by decide +kernel
theorem d1 : decode yB 1 = .ok (.aload_n 1, 1) := by decide +kernel
theorem d2 : decode yB 2 = .ok (.iconst 0, 1) := by decide +kernel
theorem d3 : decode yB 3 = .ok (.aload_n 1, 1) := by decide +kernel
theorem d4 : decode yB 4 = .ok (.arraylength, 1) := by decide +kernel
theorem d5 : decode yB 5 = .ok (.aconst_null, 1) := by decide +kernel
theorem d6 : decode yB 6 = .ok (.invokespecial 27, 3) := by decide +kernel
theorem d9 : decode yB 9 = .ok (.return_, 1) := by decide +kernel
def site : List Cond := [New4.tab] ++ initW "java/lang/String" 27 New4.yN
def tab : Cond := tabOf yN yB 2 none site
def P (a : Addr) (D : Cell) (fV fC : Field) (b : Addr) (A : Cell) (z : Int32) (args : Array Value) (s : State) : Prop := args = #[.ref a, .ref b] ∧ Blank "java/lang/String" a D s ∧ Found "java/lang/String" "value" "[B" fV s ∧ Found "java/lang/String" "coder" "B" fC s ∧ Ch b A s ∧ StaticIs s "java/lang/String" "COMPACT_STRINGS" "Z" (.int z) ∧ ¬ z = 0 ∧ 0 < A.slots.size ∧ A.slots.size ≤ 536870912 ∧ ∀ i, i < A.slots.size → ¬ 255 < cv A i
def E (a : Addr) (D : Cell) (fV fC : Field) (A : Cell) (r : Option Value) (s u : State) : Prop := Got a D fV fC A 0 A.slots.size r s u
/-- new String(chars), not empty, no char above 255: a Latin-1 String of their low bytes -/
theorem law (l : Launch) (a : Addr) (D : Cell) (fV fC : Field) (b : Addr) (A : Cell) (z : Int32) : Law l yN 2 1 3 52 yB 2 none site (P a D fV fC b A z) (E a D fV fC A) [⟨a, fC.slot⟩, ⟨a, fV.slot⟩] 1 A.slots.size := by
  refine Law.of_walk (plainFor_of_name (by decide +kernel)) (by decide +kernel) (by decide +kernel) (by decide) (fun _ _ h => by rw [h.1]; rfl) (fun _ U U' hal hh h => ⟨h.1, h.2.1.mv hal hh, h.2.2.1.al hal, h.2.2.2.1.al hal, h.2.2.2.2.1.mv hal hh, h.2.2.2.2.2.1.there hal hh, h.2.2.2.2.2.2⟩) (fun r U U' V V' h1 hal h2 h => Got.mv r U U' V V' h1 hal h2 h) ?_
  intro p e s m args below meth c s₁ X0 hexec hbytes hml hret hlk hnm hown hh0 W hP
  obtain ⟨rfl, hB, f1, f2, hA, s1, hz, l0, l2, hp⟩ := hP
  have c1 : Steps p.tables e below (s₁.setTop (entryFrame m #[.ref a, .ref b] 2)) (s₁.setTop (mkF m 0 #[.val (.ref a), .val (.ref b)] [])) := entry rfl
  have c2 : Steps p.tables e below (s₁.setTop (entryFrame m #[.ref a, .ref b] 2)) (s₁.setTop (mkF m 6 #[.val (.ref a), .val (.ref b)] [.null, .int (Int32.ofNat A.slots.size), .int 0, .ref b, .ref a])) := c1.trans (by
    refine XS.aloadN X0.here hexec rfl (hb hbytes d0) rfl rfl ?_
    refine XS.aloadN X0.here hexec rfl (hb hbytes d1) rfl rfl ?_
    refine iconstV X0.here hexec rfl 0 (hb hbytes d2) (by decide) ?_
    refine XS.aloadN X0.here hexec rfl (hb hbytes d3) rfl rfl ?_
    refine X0.alen hexec (hA.1.mv X0.warmed.alike hh0) rfl rfl (hb hbytes d4) ?_
    refine XS.aconstNull X0.here hexec rfl (hb hbytes d5) ?_
    exact Steps.refl _)
  obtain ⟨v3, T3, X3, E3, g3⟩ := X0.callN hexec (New4.law l a D fV fC b A z 0 A.slots.size) rfl hown (wks W (initW "java/lang/String" 27 New4.yN)) (W New4.tab (by simp only [site, List.mem_cons, List.mem_append, true_or, or_true])) (W := 0) (Nat.le_of_ble_eq_true rfl) (Nat.le_of_ble_eq_true rfl) (Nat.le_refl _) (by show 0 + A.slots.size ≤ A.slots.size; omega) (g := (mkF m 6 #[.val (.ref a), .val (.ref b)] [.null, .int (Int32.ofNat A.slots.size), .int (Int32.ofNat 0), .ref b, .ref a])) rfl (by rw [hml]; rfl) c2 (argsL := [.ref b, .int (Int32.ofNat 0), .int (Int32.ofNat A.slots.size), .null]) (rest := []) rfl rfl (by show 2 * 0 + 0 ≤ _; decide) (hb hbytes d6) (⟨rfl, hB.mv X0.warmed.alike hh0, f1.al X0.warmed.alike, f2.al X0.warmed.alike, hA.mv X0.warmed.alike hh0, s1.there X0.warmed.alike hh0, hz, l0, by omega, l2, fun i hi => by rw [Nat.zero_add]; exact hp i hi⟩)
  have e0 := Got.mv _ s₁ s _ _ hh0.symm (Vm.Alike.refl _) rfl E3
  obtain rfl := e0.1
  have c4 : Steps p.tables e below (s₁.setTop (entryFrame m #[.ref a, .ref b] 2)) (T3.setTop (mkF m 9 #[.val (.ref a), .val (.ref b)] [])) := g3
  exact ⟨T3, none, _, _, _, X3, by simp, rfl, by omega, (fun _ => rfl), e0, fun fs hl => c4.trans (X3.returnOut hexec hret (hb hbytes d9) hl)⟩
theorem pays {l : Launch} {R : Room} {p : Program} {e : Env} {below : List Frame} {s : State} {sargs : Array Value} {len W : Nat} (a : Addr) (D : Cell) (fV fC : Field) (b : Addr) (A : Cell) (z : Int32) (htab : tab.before sargs s = true) (hfr : 4 ≤ R.frames) (hlo : W + 65 ≤ R.locals) :
    Back l R p e below s sargs yN len W (fun A₁ a₁ => A₁.cells + 1 ≤ R.cells ∧ A₁.slots + A.slots.size ≤ R.slots ∧ P a D fV fC b A z a₁ A₁.U) (fun A₁ _ v₁ B₁ => E a D fV fC A v₁ A₁.U B₁.U ∧ B₁.locs = A₁.locs ++ [⟨a, fC.slot⟩, ⟨a, fV.slot⟩] ∧ B₁.cells = A₁.cells + 1 ∧ B₁.slots = A₁.slots + A.slots.size) :=
  (law l a D fV fC b A z).pays htab hfr (by omega)
end New1
end StrChars
namespace StrChars.Road
open Jvm Sem ClassFile Op Lib Jvm.Stand Jvm.Free Jvm.Free.XT
open Jvm.Lib.Cold (StaticIs)
abbrev ST : String := "java/lang/String"
/-- every table word that New1's law asks, flat -/
abbrev words : List Jvm.Cond := [.code New1.yN New1.yB 2 none, .initialized ST, .methodLink ST 27 New4.yN, .instanceMethod New4.yN,
  .code New4.yN New4.yB 6 none, .fieldLink ST 38 ST "COMPACT_STRINGS" "Z", .laysFinal ST ST "value" "[B", .fieldLink ST 9 ST "value" "[B", .laysFinal ST ST "coder" "B", .fieldLink ST 15 ST "coder" "B",
  .methodLink ST 1 Lib.objectInit, .instanceMethod Lib.objectInit, .code Lib.objectInit ⟨#[0xb1]⟩ 1 none, .methodLink ST 177 Cmp3.yN, .static Cmp3.yN, .methodLink ST 47 CodL.yN, .static CodL.yN,
  .code Cmp3.yN Cmp3.yB 6 (some (.array .byte)), .initialized U16, .arrayClass .byte, .methodLink U16 115 Cmp5.yN, .static Cmp5.yN, .code Cmp5.yN Cmp5.yB 7 (some .int), .code CodL.yN CodL.yB 2 (some .byte)]
theorem tab_of {a : Array Value} {s : State} (h : ∀ w ∈ words, w.before a s = true) : New1.tab.before a s = true := by
  have h5 : Cmp5.tab.before a s = true := unparts (wk h (.code Cmp5.yN Cmp5.yB 7 (some .int))) (wks h (.initialized Cmp5.yN.cls :: Cmp5.site))
  have hc : CodL.tab.before a s = true := unparts (wk h (.code CodL.yN CodL.yB 2 (some .byte))) (wks h (.initialized CodL.yN.cls :: CodL.site))
  have q5 : ∀ w ∈ Cmp5.tab :: words, w.before a s = true := fun w hw => (List.mem_cons.mp hw).elim (fun e => e ▸ h5) (h w)
  have h3 : Cmp3.tab.before a s = true := unparts (wk q5 (.code Cmp3.yN Cmp3.yB 6 (some (.array .byte)))) (wks q5 (.initialized Cmp3.yN.cls :: Cmp3.site))
  have q3 : ∀ w ∈ Cmp3.tab :: CodL.tab :: words, w.before a s = true := fun w hw => (List.mem_cons.mp hw).elim (fun e => e ▸ h3) fun hw => (List.mem_cons.mp hw).elim (fun e => e ▸ hc) (h w)
  have h4 : New4.tab.before a s = true := unparts (wk q3 (.code New4.yN New4.yB 6 none)) (wks q3 (.initialized New4.yN.cls :: New4.site))
  have q4 : ∀ w ∈ New4.tab :: words, w.before a s = true := fun w hw => (List.mem_cons.mp hw).elim (fun e => e ▸ h4) (h w)
  exact unparts (wk q4 (.code New1.yN New1.yB 2 none)) (wks q4 (.initialized New1.yN.cls :: New1.site))
/-- the words ride from the start Z to the walk's own state -/
theorem moved {Z s : State} {a0 args : Array Value} (hZ : Z.Warmed39 s.vm) (hw : ∀ d ∈ words, d.before a0 Z = true) : ∀ d ∈ words, d.before args s = true := fun d hd => by
  have q := hw d hd
  have t : ∀ d ∈ words, d = .arrayClass .byte ∨ (d.onTables && d.keepsFace) = true := by decide +kernel
  rcases t d hd with rfl | t
  · exact RoadKit.mvA hZ q
  · exact RoadKit.mv hZ q t
/-- WHAT COMES BACK, over the tables of the start Z: h the heap at the call, h' behind it -/
def Q (Z : State) (x : Addr) (A : Cell) (h : Heap) (v : Option Value) (h' : Heap) (L : List Loc) : Prop := v = none ∧ (∀ y ∈ L, y.base = x) ∧ RoadKit.Keep h h' [x] ∧ h'.size = h.size + 1 ∧ RoadKit.Exa Z h' x ST ∧ RoadKit.Fld Z h' x ST "value" "[B" (.ref h.size) ∧ RoadKit.Fld Z h' x ST "coder" "B" (.int 0) ∧
  (∃ V : Cell, RoadKit.Arr Z h' h.size V .byte ∧ V.vm = .none ∧ Z.vm.findClass "[B" = some V.cls ∧ V.slots.size = A.slots.size ∧ ∀ j, j < A.slots.size → V.slots[j]? = some (.int (lo8 (cv A j)))) ∧
  ∀ (O n d : String) (w : Value), RoadKit.Fld Z h x O n d w → RoadKit.slotOf Z O n d ≠ RoadKit.slotOf Z ST "value" "[B" → RoadKit.slotOf Z O n d ≠ RoadKit.slotOf Z ST "coder" "B" → RoadKit.Fld Z h' x O n d w
/-- **new String(chars) AT A CALL, IN THE ROAD'S FORM**: for specialBack behind newO: x the fresh String, b the char[] with the cell A -/
theorem back {p : Program} {l : Launch} {e : Env} {R : Room} {s : State} {args : Array Value} {below : List Frame} {len W : Nat} {Z : State} {a0 : Array Value} {h : Heap} (hZ : Z.Warmed39 s.vm) (hw : ∀ d ∈ words, d.before a0 Z = true) {kI : Nat} (wi : (Jvm.Cond.instantiable ST kI).before a0 Z = true)
    {x b : Addr} {A : Cell} {z : Int32} {v0 c0 : Value} (E : RoadKit.Exa Z h x ST) (V : RoadKit.Fld Z h x ST "value" "[B" v0) (C : RoadKit.Fld Z h x ST "coder" "B" c0) (K : RoadKit.Arr Z h b A .char) (hty : Typed .char A) (S : RoadKit.Sta Z h ST "COMPACT_STRINGS" "Z" (.int z)) (hz : ¬ z = 0)
    (l0 : 0 < A.slots.size) (l2 : A.slots.size ≤ 536870912) (hp : ∀ i, i < A.slots.size → ¬ 255 < cv A i) (hfr : 4 ≤ R.frames) (hlo : W + 65 ≤ R.locals) :
    Back l R p e below s args New1.yN len W (fun P a => a = #[.ref x, .ref b] ∧ P.U.heap = h ∧ P.cells + 1 ≤ R.cells ∧ P.slots + A.slots.size ≤ R.slots)
      (fun P _ v B => ∃ L, Q Z x A h v B.U.heap L ∧ B.locs = P.locs ++ L ∧ B.cells = P.cells + 1 ∧ B.slots = P.slots + A.slots.size) := by
  intro m meth c P g ig mk a X hg hsize hdg hW hn hp'
  obtain ⟨rfl, rfl, r1, r2⟩ := hp'
  have al : Z.vm.Alike P.U.vm := hZ.alike.trans X.warmed.alike
  obtain ⟨D, cfV, kV, iV, fV, hD, gV, stV, knV, obV, asV, slV⟩ := id V
  obtain ⟨D', cfC, kC, iC, fC, hD', gC, stC, -, -, asC, slC⟩ := id C
  cases hD.symm.trans hD'
  obtain ⟨D2, kD, e1, e2, e3, e4, e5⟩ := id E
  cases hD.symm.trans e1
  obtain ⟨c2, k2, i1, i2, i3, -⟩ := Cond.instantiable_spec wi
  cases e2.symm.trans i1
  cases e3.symm.trans i2
  obtain ⟨kU, u1, u2⟩ := al.2.2 _ _ e3
  have hB : Blank ST x D P.U := ⟨hD, ⟨knV, fun q hq => by rw [hq] at obV; cases obV⟩, by rw [al.findClass]; exact e2, kU, u1, by rw [u2]; exact i3, by rw [u2]; exact e5 i3⟩
  have F1 : Found ST "value" "[B" fV P.U := ⟨SBG.found_only al ⟨cfV, kV, iV, gV⟩, stV⟩
  have F2 : Found ST "coder" "B" fC P.U := ⟨SBG.found_only al ⟨cfC, kC, iC, gC⟩, stC⟩
  have hA : Ch b A P.U := ⟨⟨K.1, State.isArrayOf_alike al K.2.1, K.2.2, by omega⟩, hty⟩
  have hS : StaticIs P.U ST "COMPACT_STRINGS" "Z" (.int z) := by
    obtain ⟨cfS, iS, kS, fS, st, cS, t1, t2, t3, t4, t5, t6, t7⟩ := S
    exact StaticIs.there (s := { Z with heap := P.U.heap }) ⟨cfS, iS, kS, fS, st, cS, t1, t2, t3, t4, t5, (fun q => by rw [q] at t6; cases t6), t7⟩ al rfl
  obtain ⟨v, B, X', ⟨⟨hv, E', V', q1, q2, q3, q4, q5, q6, q7, q8, q9, q10, q11⟩, hl, hc, hs⟩, st⟩ := New1.pays x D fV fC b A z (tab_of (moved hZ hw)) hfr hlo m meth c P g ig mk _ X hg hsize hdg hW hn ⟨r1, r2, rfl, hB, F1, F2, hA, hS, hz, l0, l2, hp⟩
  have al' : Z.vm.Alike B.U.vm := hZ.alike.trans X'.warmed.alike
  have hsz : E'.slots.size = D.slots.size := by
    obtain ⟨-, -, -, kB, w1, w2, w3⟩ := q1
    obtain ⟨kB', y1, y2⟩ := al'.2.2 _ _ e3
    rw [q2.2.1] at w1
    cases w1.symm.trans y1
    rw [w3, e5 i3, y2]
  refine ⟨v, B, X', ⟨_, ⟨hv, ?_, ⟨by omega, fun y cy hy hn' => q10 y cy (by simpa using hn') hy, fun y cy hy => ?_⟩, q11, ⟨E', _, q1.1, by rw [q2.2.1]; exact e2, by rw [q2.2.1]; exact e3, by rw [q2.1]; exact obV, fun _ => by rw [hsz]; exact e5 i3⟩,
    ⟨E', cfV, kV, iV, fV, q1.1, gV, stV, by rw [q2.1]; exact knV, by rw [q2.1]; exact obV, by rw [q2.2.1]; exact asV, q3⟩, ⟨E', cfC, kC, iC, fC, q1.1, gC, stC, by rw [q2.1]; exact knV, by rw [q2.1]; exact obV, by rw [q2.2.1]; exact asC, q4⟩,
    ⟨V', ⟨q5.1, State.isArrayOf_alike al'.symm q5.2.1, q5.2.2.1⟩, q6, by rw [← al'.findClass]; exact q7, q8, fun j hj => by have := q9 j hj; rwa [Nat.zero_add] at this⟩, fun O n d w F n1 n2 => ?_⟩, hl, hc, hs⟩, st⟩
  · intro y hy
    simp only [List.mem_cons, List.not_mem_nil, or_false] at hy
    rcases hy with rfl | rfl <;> rfl
  · by_cases q : y = x
    · subst q
      cases hD.symm.trans hy
      exact ⟨E', q1.1, q2.2.1, q2.1, hsz⟩
    · exact ⟨cy, q10 y cy q hy, rfl, rfl, rfl⟩
  · obtain ⟨D3, cf, k, i, f, g1, g2, g3, g4, g5, g6, g7⟩ := F
    cases hD.symm.trans g1
    simp only [RoadKit.slotOf, g2, gV, gC, Option.map_some, Option.getD_some] at n1 n2
    exact ⟨E', cf, k, i, f, q1.1, g2, g3, by rw [q2.1]; exact g4, by rw [q2.1]; exact g5, by rw [q2.2.1]; exact g6, by rw [q2.2.2 f.slot (by simp [n1, n2])]; exact g7⟩
end StrChars.Road
namespace StrChars.Road
open Jvm Sem ClassFile Op Lib Jvm.Stand Jvm.Free Jvm.Free.XT
/-- WHAT COMES BACK, the byte[] as a list of values -/
def QA (Z : State) (x : Addr) (zn : Int32) (cs : List Int32) (h : Heap) (v : Option Value) (h' : Heap) (L : List Loc) : Prop := v = none ∧ (∀ y ∈ L, y.base = x) ∧ RoadKit.Keep h h' [x] ∧ h'.size = h.size + 1 ∧ RoadKit.Exa Z h' x ST ∧ RoadKit.Fld Z h' x ST "value" "[B" (.ref h.size) ∧ RoadKit.Fld Z h' x ST "coder" "B" (.int 0) ∧
  (∃ kb, Z.vm.findClass "[B" = some kb ∧ RoadKit.Arv Z h' h.size kb .byte zn (cs.map fun c => .int (lo8 c)) (.int 0)) ∧
  ∀ (O n d : String) (w : Value), RoadKit.Fld Z h x O n d w → RoadKit.slotOf Z O n d ≠ RoadKit.slotOf Z ST "value" "[B" → RoadKit.slotOf Z O n d ≠ RoadKit.slotOf Z ST "coder" "B" → RoadKit.Fld Z h' x O n d w
/-- **new String(chars) AT A CALL, THE ARRAYS AS LISTS**: the char[] at b holds cs, not empty, no char above 255 -/
theorem backArv {p : Program} {l : Launch} {e : Env} {R : Room} {s : State} {args : Array Value} {below : List Frame} {len W : Nat} {Z : State} {a0 : Array Value} {h : Heap} (hZ : Z.Warmed39 s.vm) (hw : ∀ d ∈ words, d.before a0 Z = true) {kI : Nat} (wi : (Jvm.Cond.instantiable ST kI).before a0 Z = true)
    {x b : Addr} {k : ClassId} {zn z : Int32} {cs : List Int32} {dv v0 c0 : Value} (E : RoadKit.Exa Z h x ST) (V : RoadKit.Fld Z h x ST "value" "[B" v0) (C : RoadKit.Fld Z h x ST "coder" "B" c0) (K : RoadKit.Arv Z h b k .char zn (cs.map Value.int) dv) (S : RoadKit.Sta Z h ST "COMPACT_STRINGS" "Z" (.int z)) (hz : ¬ z = 0)
    (hlen : zn.toNatClampNeg = cs.length) (h0 : 0 < cs.length) (hbig : cs.length ≤ 536870912) (hall : ∀ c ∈ cs, ¬ 255 < c) (hfr : 4 ≤ R.frames) (hlo : W + 65 ≤ R.locals) :
    Back l R p e below s args New1.yN len W (fun P a => a = #[.ref x, .ref b] ∧ P.U.heap = h ∧ P.cells + 1 ≤ R.cells ∧ P.slots + cs.length ≤ R.slots)
      (fun P _ v B => ∃ L, QA Z x zn cs h v B.U.heap L ∧ B.locs = P.locs ++ L ∧ B.cells = P.cells + 1 ∧ B.slots = P.slots + cs.length) := by
  obtain ⟨A, K1, K2, K3, K4, K5, K6⟩ := K
  have e : A.slots.size = cs.length := K3.trans hlen
  have hat : ∀ (i : Nat) (hi : i < cs.length), A.slots[i]? = some (.int cs[i]) := fun i hi => by rw [K5 i (by omega)]; simp [List.getD_eq_getElem?_getD, hi]
  have hcv : ∀ (i : Nat) (hi : i < cs.length), cv A i = cs[i] := fun i hi => by unfold cv; rw [hat i hi]
  have hty : Typed .char A := fun i v hv => by
    have hi : i < A.slots.size := (Array.getElem?_eq_some_iff.mp hv).1
    have q := K5 i hi
    rw [hv] at q
    rw [Option.some.inj q]
    exact K6 i hi
  refine Back.mono (back hZ hw wi E V C K1 hty S hz (by omega) (by omega) (fun i hi => by rw [hcv i (by omega)]; exact hall _ (List.getElem_mem _)) hfr hlo) (fun P a hp => ⟨hp.1, hp.2.1, hp.2.2.1, by rw [e]; exact hp.2.2.2⟩) (fun P a v B hp hq => ?_)
  obtain ⟨L, ⟨q1, q2, q3, q4, q5, q6, q7, ⟨V', v1, v2, v3, v4, v5⟩, q9⟩, hl, hc, hs⟩ := hq
  refine ⟨L, ⟨q1, q2, q3, q4, q5, q6, q7, ⟨V'.cls, v3, V', v1, rfl, by rw [v4, e, hlen], K4, fun i hi => ?_, fun i hi => ?_⟩, q9⟩, hl, hc, by rw [hs, e]⟩
  · have hi' : i < cs.length := by omega
    rw [v5 i (by omega), hcv i hi']; simp [List.getD_eq_getElem?_getD, hi']
  · have hi' : i < cs.length := by omega
    simp only [List.getD_eq_getElem?_getD, List.getElem?_map, List.getElem?_eq_getElem hi', Option.map_some, Option.getD_some]
    exact fits_lo8 _
end StrChars.Road
namespace StrChars.Road
open Jvm Sem ClassFile Op Lib Jvm.Stand Jvm.Free Jvm.Free.XT
/-- WHAT COMES BACK, in the writer's own shape -/
def QV (Z : State) (x : Addr) (N : Int32) (bs : List Int32) (h : Heap) (n0 : Nat) (v : Option Value) (h' : Heap) (L : List Loc) : Prop := v = none ∧ RoadKit.Fr n0 L ∧ RoadKit.Keep h h' [x] ∧ RoadKit.Exa Z h' x ST ∧ RoadKit.Fld Z h' x ST "coder" "B" (.int 0) ∧
  ∃ (t : Addr) (kb : ClassId), n0 ≤ t ∧ h.size ≤ t ∧ ¬ t = x ∧ RoadKit.Fld Z h' x ST "value" "[B" (.ref t) ∧ RoadKit.Arv Z h' t kb .byte N (bs.map Value.int) (.int 0)
/-- **new String(chars) AT A CALL, FOR THE WRITER**: a char[] of n known ints, each 0 to 255 -/
theorem backV {p : Program} {l : Launch} {e : Env} {R : Room} {s : State} {args : Array Value} {below : List Frame} {len W : Nat} {Z : State} {a0 : Array Value} {h : Heap} (hZ : Z.Warmed39 s.vm) (hw : ∀ d ∈ words, d.before a0 Z = true) {kI : Nat} (wi : (Jvm.Cond.instantiable ST kI).before a0 Z = true)
    {x b : Addr} {kC : ClassId} {cs bs : List Int32} {d v0 c0 : Value} {z N : Int32} {n n0 : Nat} (hx0 : n0 ≤ x) (hh0 : n0 ≤ h.size) (E : RoadKit.Exa Z h x ST) (V : RoadKit.Fld Z h x ST "value" "[B" v0) (C : RoadKit.Fld Z h x ST "coder" "B" c0) (K : RoadKit.Arv Z h b kC .char N (cs.map Value.int) d) (S : RoadKit.Sta Z h ST "COMPACT_STRINGS" "Z" (.int z)) (hz : ¬ z = 0)
    (hn : cs.length = n) (hN : N = Int32.ofNat n) (l0 : 0 < n) (l2 : n ≤ 4000) (hp : ∀ c ∈ cs, ¬ c < 0 ∧ ¬ (255 : Int32) < c) (hb : bs = cs.map (fun c => c.toInt8.toInt32)) (hfr : 4 ≤ R.frames) (hlo : W + 65 ≤ R.locals) :
    Back l R p e below s args (⟨"java/lang/String", "<init>", "([C)V"⟩ : MethodName) len W (fun P a => a = #[.ref x, .ref b] ∧ P.U.heap = h ∧ P.cells + 1 ≤ R.cells ∧ P.slots + n ≤ R.slots)
      (fun P _ v B => ∃ L, QV Z x N bs h n0 v B.U.heap L ∧ B.locs = P.locs ++ L ∧ B.cells = P.cells + 1 ∧ B.slots = P.slots + n) := by
  subst hn hN hb
  refine Back.mono (backArv hZ hw wi E V C K S hz (n32 (by omega)) l0 (by omega) (fun c hc => (hp c hc).2) hfr hlo) (fun P a hp => hp) (fun P a v B hp hq => ?_)
  obtain ⟨L, ⟨q1, q2, q3, q4, q5, q6, q7, ⟨kb, v1, v2⟩, q9⟩, hl, hc, hs⟩ := hq
  exact ⟨L, ⟨q1, fun y hy => by rw [q2 y hy]; exact hx0, q3, q5, q7, h.size, kb, hh0, Nat.le_refl _, Nat.ne_of_gt E.lt, q6, by rw [List.map_map]; exact v2⟩, hl, hc, hs⟩
end StrChars.Road
end Jvm.Pilot.@@N@@
namespace Jvm.Pilot.@@N@@
open Jvm Jvm.ClassFile Sem Op Lib Jvm.Free Jvm.Stand Jvm.LawKit Jvm.RoadKit Bundle Jvm.Pilot.@@N@@.Jvm.D
/-! the walk in continuation style: 'Fin': from F on the run comes to an end that answers Q -/
section Own
variable {p : Program} {l : Launch} {e : Env} {R : Room} {s : State} {m : MethodId} {args : Array Value} {below : List Frame} {meth : Method} {c : Code} {T : State} {locs : List Loc} {cells slots : Nat}
def OFin (p : Program) (e : Env) (below : List Frame) (Q : Outcome → State → Prop) (F : State) : Prop := ∃ s₂ o, Steps p.tables e below F s₂ ∧ s₂.status = .running ∧ Ended s₂ below o ∧ Q o s₂
def ORet (Q : Option Value → Heap → List Loc → Prop) (s : State) (C S : Nat) (o : Outcome) (U' : State) : Prop := ∃ v L, o = .returned v ∧ Q v U'.heap L ∧ FrameEnd s o U' L C S
theorem OFin.go {Q : Outcome → State → Prop} {F F' : State} (st : ∀ t, Steps p.tables e below F' t → Steps p.tables e below F t) (h : OFin p e below Q F') : OFin p e below Q F := by
  obtain ⟨s2, o, h1, r⟩ := h; exact ⟨s2, o, st _ h1, r⟩
theorem OFin.tr {Q : Outcome → State → Prop} {F F' : State} (st : Steps p.tables e below F F') (h : OFin p e below Q F') : OFin p e below Q F := by
  obtain ⟨s2, o, h1, r⟩ := h; exact ⟨s2, o, st.trans h1, r⟩
variable {Q : Option Value → Heap → List Loc → Prop} {C S : Nat}
theorem finZ (X : Stand p l e R s m args below meth c T locs cells slots) (hx : p.tables.exec = Jvm.exec) (hlocks : meth.locks = false) {t : FieldType} (hret : meth.sig.returnType = some t) (ht : t = .boolean ∨ t = .byte ∨ t = .char ∨ t = .short) {pc : Nat} (hd : decode c.code pc = .ok (.ireturn, 1)) {z z' : Int32} (hz : nar t z = z') (hc : cells ≤ C) (hs : slots ≤ S) {Ls : Array Slot} {rest : List Value} (hQ : Q (some (.int z')) T.heap locs) : OFin p e below (ORet Q s C S) (T.setTop (mkF m pc Ls (.int z :: rest))) := by
  subst hz
  obtain ⟨fs, hr, hrun, hended, hW, hsame⟩ := X.leave (v := some (.int (nar t z))) (fun h => by rw [hret] at h; cases h)
  exact ⟨_, _, retN X hx (t := t) hret ht hd hr, hrun, hended, _, _, rfl, hQ, ⟨_, rfl⟩, hW, hsame.mono hc hs⟩
theorem finI (X : Stand p l e R s m args below meth c T locs cells slots) (hx : p.tables.exec = Jvm.exec) (hlocks : meth.locks = false) (hret : meth.sig.returnType = some .int) {pc : Nat} (hd : decode c.code pc = .ok (.ireturn, 1)) {z : Int32} (hc : cells ≤ C) (hs : slots ≤ S) {Ls : Array Slot} {rest : List Value} (hQ : Q (some (.int z)) T.heap locs) : OFin p e below (ORet Q s C S) (T.setTop (mkF m pc Ls (.int z :: rest))) := by
  obtain ⟨fs, hr, hrun, hended, hW, hsame⟩ := X.leave (v := some (.int z)) (fun h => by rw [hret] at h; cases h)
  exact ⟨_, _, retOut X hx hret rfl (Or.inl ⟨rfl, Or.inl rfl, _, rfl⟩) hd hr, hrun, hended, _, _, rfl, hQ, ⟨_, rfl⟩, hW, hsame.mono hc hs⟩
theorem finJ (X : Stand p l e R s m args below meth c T locs cells slots) (hx : p.tables.exec = Jvm.exec) (hlocks : meth.locks = false) (hret : meth.sig.returnType = some .long) {pc : Nat} (hd : decode c.code pc = .ok (.lreturn, 1)) {z : Int64} (hc : cells ≤ C) (hs : slots ≤ S) {Ls : Array Slot} {rest : List Value} (hQ : Q (some (.long z)) T.heap locs) : OFin p e below (ORet Q s C S) (T.setTop (mkF m pc Ls (.long z :: rest))) := by
  obtain ⟨fs, hr, hrun, hended, hW, hsame⟩ := X.leave (v := some (.long z)) (fun h => by rw [hret] at h; cases h)
  exact ⟨_, _, retOut X hx hret rfl (Or.inr (Or.inl ⟨rfl, rfl, _, rfl⟩)) hd hr, hrun, hended, _, _, rfl, hQ, ⟨_, rfl⟩, hW, hsame.mono hc hs⟩
theorem finA (X : Stand p l e R s m args below meth c T locs cells slots) (hx : p.tables.exec = Jvm.exec) (hlocks : meth.locks = false) {w : Value} (hw : w.isRef = true) {t : FieldType} (hret : meth.sig.returnType = some t) (ht : t.isReference = true) {pc : Nat} (hd : decode c.code pc = .ok (.areturn, 1)) (hc : cells ≤ C) (hs : slots ≤ S) {Ls : Array Slot} {rest : List Value} (hQ : Q (some w) T.heap locs) : OFin p e below (ORet Q s C S) (T.setTop (mkF m pc Ls (w :: rest))) := by
  obtain ⟨fs, hr, hrun, hended, hW, hsame⟩ := X.leave (v := some w) (fun h => by rw [hret] at h; cases h)
  refine ⟨_, _, retOut X hx hret ?_ (Or.inr (Or.inr (Or.inr (Or.inr ⟨rfl, ht, hw⟩)))) hd hr, hrun, hended, _, _, rfl, hQ, ⟨_, rfl⟩, hW, hsame.mono hc hs⟩
  cases w <;> first | (simp [Value.isRef] at hw; done) | (cases t <;> first | rfl | (simp [FieldType.isReference] at ht; done))
theorem finV (X : Stand p l e R s m args below meth c T locs cells slots) (hx : p.tables.exec = Jvm.exec) (hlocks : meth.locks = false) (hret : meth.sig.returnType = none) {pc : Nat} (hd : decode c.code pc = .ok (.return_, 1)) (hc : cells ≤ C) (hs : slots ≤ S) {Ls : Array Slot} (hQ : Q none T.heap locs) : OFin p e below (ORet Q s C S) (T.setTop (mkF m pc Ls [])) := by
  obtain ⟨fs, hr, hrun, hended, hW, hsame⟩ := X.leave (v := none) (fun _ => rfl)
  exact ⟨_, _, X.returnOut hx hret hd hr, hrun, hended, _, _, rfl, hQ, ⟨_, rfl⟩, hW, hsame.mono hc hs⟩
end Own
/-- a boolean as the int that bears it -/
def bi (P : Prop) [Decidable P] : Int32 := if P then 1 else 0
theorem bi_t {P : Prop} [Decidable P] (h : P) : bi P = 1 := if_pos h
theorem bi_f {P : Prop} [Decidable P] (h : ¬ P) : bi P = 0 := if_neg h
theorem nar_bi (P : Prop) [Decidable P] : nar .boolean (bi P) = bi P := by unfold bi; split <;> rfl
theorem bi_iff {P Q : Prop} [Decidable P] [Decidable Q] : bi P = bi Q ↔ (P ↔ Q) := by
  unfold bi; by_cases h : P <;> by_cases k : Q <;> simp [h, k]
theorem bi0 {P : Prop} [Decidable P] : (bi P = 0) ↔ ¬ P := by unfold bi; by_cases h : P <;> simp [h]
theorem bi_ne_t {P : Prop} [Decidable P] (h : P) : ifCond.holds .ne (bi P) = true := by rw [bi_t h]; rfl
theorem bi_ne_f {P : Prop} [Decidable P] (h : ¬ P) : ifCond.holds .ne (bi P) = false := by rw [bi_f h]; rfl
theorem bi_eq_t {P : Prop} [Decidable P] (h : ¬ P) : ifCond.holds .eq (bi P) = true := by rw [bi_f h]; rfl
theorem bi_eq_f {P : Prop} [Decidable P] (h : P) : ifCond.holds .eq (bi P) = false := by rw [bi_t h]; rfl
theorem lc_lt_t {x y : Int64} (h : x < y) : ifCond.holds .lt (lcmpW x y) = true := (if0 _ _).trans (tlt ((lw_lt x y).mpr h)).1
theorem lc_lt_f {x y : Int64} (h : ¬ x < y) : ifCond.holds .lt (lcmpW x y) = false := (if0 _ _).trans (flt fun q => h ((lw_lt x y).mp q)).1
theorem lc_ge_t {x y : Int64} (h : ¬ x < y) : ifCond.holds .ge (lcmpW x y) = true := (if0 _ _).trans (flt fun q => h ((lw_lt x y).mp q)).2.1
theorem lc_ge_f {x y : Int64} (h : x < y) : ifCond.holds .ge (lcmpW x y) = false := (if0 _ _).trans (tlt ((lw_lt x y).mpr h)).2.1
theorem lc_gt_t {x y : Int64} (h : y < x) : ifCond.holds .gt (lcmpW x y) = true := (if0 _ _).trans (tlt ((lw_gt x y).mpr h)).2.2.1
theorem lc_gt_f {x y : Int64} (h : ¬ y < x) : ifCond.holds .gt (lcmpW x y) = false := (if0 _ _).trans (flt fun q => h ((lw_gt x y).mp q)).2.2.1
theorem lc_le_t {x y : Int64} (h : ¬ y < x) : ifCond.holds .le (lcmpW x y) = true := (if0 _ _).trans (flt fun q => h ((lw_gt x y).mp q)).2.2.2
theorem lc_le_f {x y : Int64} (h : y < x) : ifCond.holds .le (lcmpW x y) = false := (if0 _ _).trans (tlt ((lw_gt x y).mpr h)).2.2.2
theorem lc_eq_t {x y : Int64} (h : x = y) : ifCond.holds .eq (lcmpW x y) = true := (if0 _ _).trans (teq ((lw_eq x y).mpr h)).1
theorem lc_eq_f {x y : Int64} (h : ¬ x = y) : ifCond.holds .eq (lcmpW x y) = false := (if0 _ _).trans (feq fun q => h ((lw_eq x y).mp q)).1
theorem lc_ne_t {x y : Int64} (h : ¬ x = y) : ifCond.holds .ne (lcmpW x y) = true := (if0 _ _).trans (feq fun q => h ((lw_eq x y).mp q)).2
theorem lc_ne_f {x y : Int64} (h : x = y) : ifCond.holds .ne (lcmpW x y) = false := (if0 _ _).trans (teq ((lw_eq x y).mpr h)).2
/-! arrays by their places -/
def upd {α : Type} (f : Nat → α) (i : Nat) (v : α) : Nat → α := fun j => if j = i then v else f j
theorem upd_hit {α : Type} (f : Nat → α) (i : Nat) (v : α) : upd f i v i = v := if_pos rfl
theorem upd_miss {α : Type} {f : Nat → α} {i j : Nat} {v : α} (h : j ≠ i) : upd f i v j = f j := if_neg h
def Ara (Z : State) (h : Heap) (a : Addr) (ty : FieldType) (n : Nat) (f : Nat → Value) : Prop := ∃ c : Cell, Arr Z h a c ty ∧ c.slots.size = n ∧ n < 2 ^ 31 ∧ ∀ i, i < n → c.slots[i]? = some (f i)
section Ara
variable {Z : State} {h h' : Heap} {a b : Addr} {ty : FieldType} {n : Nat} {f f' : Nat → Value} {sl : Nat} {v : Value} {ws : List Addr}
theorem Ara.lt (F : Ara Z h a ty n f) : a < h.size := by obtain ⟨c, A, -⟩ := F; exact A.lt
theorem Ara.ext (F : Ara Z h a ty n f) (E : Ext h h') : Ara Z h' a ty n f := by obtain ⟨c, A, r⟩ := F; exact ⟨c, A.ext E, r⟩
theorem Ara.other (F : Ara Z h b ty n f) (W : Wr h h' a sl v) (q : b ≠ a) : Ara Z h' b ty n f := by obtain ⟨c, A, r⟩ := F; exact ⟨c, A.other W q, r⟩
theorem Ara.keep (F : Ara Z h a ty n f) (K : Keep h h' ws) (q : a ∉ ws) : Ara Z h' a ty n f := by obtain ⟨c, A, r⟩ := F; exact ⟨c, ⟨K.2.1 a c A.1 q, A.2⟩, r⟩
theorem Ara.set (F : Ara Z h a ty n f) (W : Wr h h' a sl v) : Ara Z h' a ty n (upd f sl v) := by
  obtain ⟨c, A, r1, r2, r3⟩ := F
  refine ⟨_, A.same W, by rw [sz_set]; exact r1, r2, fun i hi => ?_⟩
  by_cases q : i = sl
  · subst q; rw [upd_hit]; simp [Cell.setSlot, r1, hi]
  · rw [upd_miss q]; simp only [Cell.setSlot]; rw [Array.getElem?_setIfInBounds_ne (fun z => q z.symm)]; exact r3 i hi
theorem Ara.new {k : ClassId} {z : Int32} (A : Arr Z h a (newA k ty z) ty) (hn : z.toNatClampNeg = n) : Ara Z h a ty n (fun _ => defaultValue ty) := by
  refine ⟨_, A, by rw [sz_new]; exact hn, ?_, fun i hi => ?_⟩
  · rw [← hn]; have := z.toInt_lt; unfold Int32.toNatClampNeg; omega
  · rw [← hn] at hi; simp [newA, hi]
theorem Ara.congr (F : Ara Z h a ty n f) (q : ∀ i, i < n → f i = f' i) : Ara Z h a ty n f' := by obtain ⟨c, A, r1, r2, r3⟩ := F; exact ⟨c, A, r1, r2, fun i hi => by rw [← q i hi]; exact r3 i hi⟩
variable {p : Program} {l : Launch} {e : Env} {R : Room} {s : State} {m : MethodId} {args : Array Value} {below : List Frame} {meth : Method} {c : Code} {T : State} {locs : List Loc} {cells slots : Nat} {j : Int32} {i : Nat} {rest : List Value} {g : JFrame} {t : State} {x : Value}
theorem hin_of {cl : Cell} (S : cl.slots.size = n) (hj0 : ¬ j < 0) (hj : j.toNatClampNeg = i) (hi : i < n) : ¬ (j < 0 ∨ cl.slots.size ≤ j.toNatClampNeg) := by rw [S, hj]; exact fun q => q.elim hj0 (Nat.not_le.mpr hi)
theorem rdB (X : Stand p l e R s m args below meth c T locs cells slots) (hx : p.tables.exec = Jvm.exec) (hZ : Z.Warmed39 s.vm) (eT : T.heap = h) (F : Ara Z h a .byte n f) (hj0 : ¬ j < 0) (hj : j.toNatClampNeg = i) (hi : i < n) (hv : f i = x) (hg : g.method = m) (hs : g.stack = .int j :: .ref a :: rest) (hd : decode c.code g.pc = .ok (.baload, 1))
    (k : Steps p.tables e below (T.setTop { g with pc := g.pc + 1, stack := x :: rest }) t) : Steps p.tables e below (T.setTop g) t := by
  obtain ⟨cl, A, r1, r2, r3⟩ := F
  exact X.baloadBytes hx (by rw [eT]; exact A.1) (State.isArrayOf_alike hZ.alike A.2.1) A.2.2 (hin_of r1 hj0 hj hi) (by rw [hj, r3 i hi, hv]) hg hs hd _ k
theorem rdI (X : Stand p l e R s m args below meth c T locs cells slots) (hx : p.tables.exec = Jvm.exec) (hZ : Z.Warmed39 s.vm) (eT : T.heap = h) (F : Ara Z h a .int n f) (hj0 : ¬ j < 0) (hj : j.toNatClampNeg = i) (hi : i < n) (hv : f i = x) (hg : g.method = m) (hs : g.stack = .int j :: .ref a :: rest) (hd : decode c.code g.pc = .ok (.iaload, 1))
    (k : Steps p.tables e below (T.setTop { g with pc := g.pc + 1, stack := x :: rest }) t) : Steps p.tables e below (T.setTop g) t := by
  obtain ⟨cl, A, r1, r2, r3⟩ := F
  exact X.iaload hx (by rw [eT]; exact A.1) (State.isArrayOf_alike hZ.alike A.2.1) A.2.2 (hin_of r1 hj0 hj hi) (by rw [hj, r3 i hi, hv]) hg hs hd _ k
theorem rdJ (X : Stand p l e R s m args below meth c T locs cells slots) (hx : p.tables.exec = Jvm.exec) (hZ : Z.Warmed39 s.vm) (eT : T.heap = h) (F : Ara Z h a .long n f) (hj0 : ¬ j < 0) (hj : j.toNatClampNeg = i) (hi : i < n) (hv : f i = x) (hg : g.method = m) (hs : g.stack = .int j :: .ref a :: rest) (hd : decode c.code g.pc = .ok (.laload, 1))
    (k : Steps p.tables e below (T.setTop { g with pc := g.pc + 1, stack := x :: rest }) t) : Steps p.tables e below (T.setTop g) t := by
  obtain ⟨cl, A, r1, r2, r3⟩ := F
  exact X.laload hx (by rw [eT]; exact A.1) (State.isArrayOf_alike hZ.alike A.2.1) A.2.2 (hin_of r1 hj0 hj hi) (by rw [hj, r3 i hi, hv]) hg hs hd _ k
theorem rdR (X : Stand p l e R s m args below meth c T locs cells slots) (hx : p.tables.exec = Jvm.exec) (hZ : Z.Warmed39 s.vm) (eT : T.heap = h) (F : Ara Z h a ty n f) (hty : ty.isReference = true) (hj0 : ¬ j < 0) (hj : j.toNatClampNeg = i) (hi : i < n) (hv : f i = x) (hg : g.method = m) (hs : g.stack = .int j :: .ref a :: rest) (hd : decode c.code g.pc = .ok (.aaload, 1))
    (k : Steps p.tables e below (T.setTop { g with pc := g.pc + 1, stack := x :: rest }) t) : Steps p.tables e below (T.setTop g) t := by
  obtain ⟨cl, A, r1, r2, r3⟩ := F
  exact X.aaload hx (by rw [eT]; exact A.1) (State.isArrayOf_alike hZ.alike A.2.1) hty A.2.2 (hin_of r1 hj0 hj hi) (by rw [hj, r3 i hi, hv]) hg hs hd _ k
theorem alen (X : Stand p l e R s m args below meth c T locs cells slots) (hx : p.tables.exec = Jvm.exec) (hZ : Z.Warmed39 s.vm) (eT : T.heap = h) (F : Ara Z h a ty n f) {z : Int32} (hz : n.toInt32 = z) (hg : g.method = m) (hs : g.stack = .ref a :: rest) (hd : decode c.code g.pc = .ok (.arraylength, 1))
    (k : Steps p.tables e below (T.setTop { g with pc := g.pc + 1, stack := .int z :: rest }) t) : Steps p.tables e below (T.setTop g) t := by
  obtain ⟨cl, A, r1, r2, r3⟩ := F
  refine X.arraylength hx (by rw [eT]; exact A.1) (State.isArrayOf_alike hZ.alike A.2.1) hg hs hd _ ?_
  rw [r1, hz]; exact k
theorem wrB (X : Stand p l e R s m args below meth c T locs cells slots) (hx : p.tables.exec = Jvm.exec) (hZ : Z.Warmed39 s.vm) (eT : T.heap = h) (F : Ara Z h a .byte n f) {y : Int32} (hj0 : ¬ j < 0) (hj : j.toNatClampNeg = i) (hi : i < n) {y' : Int32} (hy : nar .byte y = y') (hg : g.method = m) (hs : g.stack = .int y :: .int j :: .ref a :: rest) (hd : decode c.code g.pc = .ok (.bastore, 1)) :
    ∃ T' h', Stand p l e R s m args below meth c T' (locs ++ [⟨a, i⟩]) cells slots ∧ T'.heap = h' ∧ Wr h h' a i (.int y') ∧ ∀ target, Steps p.tables e below (T'.setTop { g with pc := g.pc + 1, stack := rest }) target → Steps p.tables e below (T.setTop g) target := by
  subst hj hy
  obtain ⟨cl, A, r1, r2, r3⟩ := F
  exact stB X hx hZ eT A (hin_of r1 hj0 rfl hi) hg hs hd
theorem wrI (X : Stand p l e R s m args below meth c T locs cells slots) (hx : p.tables.exec = Jvm.exec) (hZ : Z.Warmed39 s.vm) (eT : T.heap = h) (F : Ara Z h a .int n f) {y : Int32} (hj0 : ¬ j < 0) (hj : j.toNatClampNeg = i) (hi : i < n) (hg : g.method = m) (hs : g.stack = .int y :: .int j :: .ref a :: rest) (hd : decode c.code g.pc = .ok (.iastore, 1)) :
    ∃ T' h', Stand p l e R s m args below meth c T' (locs ++ [⟨a, i⟩]) cells slots ∧ T'.heap = h' ∧ Wr h h' a i (.int y) ∧ ∀ target, Steps p.tables e below (T'.setTop { g with pc := g.pc + 1, stack := rest }) target → Steps p.tables e below (T.setTop g) target := by
  subst hj
  obtain ⟨cl, A, r1, r2, r3⟩ := F
  exact stI X hx hZ eT A (hin_of r1 hj0 rfl hi) hg hs hd
theorem wrJ (X : Stand p l e R s m args below meth c T locs cells slots) (hx : p.tables.exec = Jvm.exec) (hZ : Z.Warmed39 s.vm) (eT : T.heap = h) (F : Ara Z h a .long n f) {y : Int64} (hj0 : ¬ j < 0) (hj : j.toNatClampNeg = i) (hi : i < n) (hg : g.method = m) (hs : g.stack = .long y :: .int j :: .ref a :: rest) (hd : decode c.code g.pc = .ok (.lastore, 1)) :
    ∃ T' h', Stand p l e R s m args below meth c T' (locs ++ [⟨a, i⟩]) cells slots ∧ T'.heap = h' ∧ Wr h h' a i (.long y) ∧ ∀ target, Steps p.tables e below (T'.setTop { g with pc := g.pc + 1, stack := rest }) target → Steps p.tables e below (T.setTop g) target := by
  subst hj
  obtain ⟨cl, A, r1, r2, r3⟩ := F
  exact stJ X hx hZ eT A (hin_of r1 hj0 rfl hi) hg hs hd
end Ara
theorem wr_le {h h' : Heap} {a : Addr} {sl : Nat} {v : Value} (W : Wr h h' a sl v) : h.size ≤ h'.size := Nat.le_of_eq W.size.symm
theorem up_lt {k a b : Nat} (h : a < k) (g : b = k) : a ≠ b := by omega
theorem nar_b (y : Int32) : nar .byte y.toInt8.toInt32 = y.toInt8.toInt32 := by show y.toInt8.toInt32.toInt8.toInt32 = _; rw [Int8.toInt8_toInt32]
theorem Sta_keep {Z : State} {h h' : Heap} {C n d : String} {v : Value} {ws : List Addr} {k : Nat} (F : Sta Z h C n d v) (K : Keep h h' ws) (q : ∀ x ∈ ws, Z.heap.size ≤ x) (hst : ∀ cf kk i f st, Z.fieldFound? C n d = some (cf, kk, i, f) → kk.statics = some st → st < Z.heap.size) : Sta Z h' C n d v := by
  obtain ⟨cf, i, kk, f, st, cell, h1, h2, h3, h4, h5, r⟩ := F
  exact ⟨cf, i, kk, f, st, cell, h1, h2, h3, h4, K.2.1 _ _ h5 (fun z => absurd (hst _ _ _ _ _ h1 h4) (Nat.not_lt.mpr (q _ z))), r⟩
theorem eqv_r {Z : State} {args : Array Value} {X F : Term} {idx : List Nat} {y : Addr} (hF : F.eval args Z none idx Z = some (.ref y)) (h : (Cond.eq X F).value args Z none Z idx = some true) : X.eval args Z none idx Z = some (.ref y) := by
  cases hx : X.eval args Z none idx Z with
  | none => simp [Cond.value, hF, hx] at h
  | some x => cases x <;> simp [Cond.value, hF, hx] at h ⊢ <;> exact h
/-! calls by a contract, in one piece -/
section Calls
variable {p : Program} {l : Launch} {e : Env} {R : Room} {s : State} {m : MethodId} {args : Array Value} {below : List Frame} {meth : Method} {c : Code} {T : State} {locs : List Loc} {cells slots : Nat} {Z : State} {a0 : Array Value} {h : Heap}
abbrev Meets1 (l : Launch) (y : MethodName) (bytes : ByteArray) (maxL : Nat) (ret : Option FieldType) (rm : Room) (Z : State) (as' : Array Value) (h : Heap) (Q : Option Value → Heap → List Loc → Prop) : Prop :=
  MetFree l y (head1 [Cond.code y bytes maxL ret] rm) (fun a U => a = as' ∧ Z.Warmed39 U.vm ∧ U.heap = h) (fun _ _ _ _ _ => True) (fun _ U o U' => ∃ v L, o = .returned v ∧ Q v U'.heap L ∧ FrameEnd U o U' L rm.cells rm.slots)
theorem callQ (X : Stand p l e R s m args below meth c T locs cells slots) (hx : p.tables.exec = Jvm.exec) (hZ : Z.Warmed39 s.vm) {own : String} {index : Nat} {y : MethodName} {bytes : ByteArray} {maxL : Nat} {ret : Option FieldType} (hown : s.vm.findClass own = some m.cls)
    (w1 : (Cond.methodLink own index y).before a0 Z = true) (w2 : (Cond.static y).before a0 Z = true) (w3 : (Cond.initialized y.cls).before a0 Z = true) (w4 : (Cond.code y bytes maxL ret).before a0 Z = true) (hy : y.cls ≠ "java/lang/invoke/MethodHandle" ∧ y.cls ≠ "java/lang/invoke/VarHandle")
    {rm : Room} {argsL rest : List Value} {Q : Option Value → Heap → List Loc → Prop} (hM : Meets1 l y bytes maxL ret rm Z argsL.toArray h Q) {W : Nat} (hf : rm.frames + 1 ≤ R.frames) (hl : W + (maxL + 11) + rm.locals ≤ R.locals) (eT : T.heap = h)
    {g : JFrame} (hg : g.method = m) (hsize : g.locals.size = c.maxLocals) (hlen : ∀ sig, parseMethodDescriptor y.desc = some sig → argsL.length = sig.parameters.length) (hstack : g.stack = argsL.reverse ++ rest) (hW : 2 * g.monitorRoom + (rest.map fun v => v.category).sum ≤ W) (hd : decode c.code g.pc = .ok (.invokestatic index, 3)) (hc : cells + rm.cells ≤ R.cells) (hs : slots + rm.slots ≤ R.slots) :
    ∃ v T' L, Stand p l e R s m args below meth c T' (locs ++ L) (cells + rm.cells) (slots + rm.slots) ∧ Q v T'.heap L ∧ ∀ target, Steps p.tables e below (T'.setTop { g with pc := g.pc + 3, stack := v.toList ++ rest }) target → Steps p.tables e below (T.setTop g) target := by
  obtain ⟨v, _, ⟨T', L', k', n'⟩, -, X', ⟨L, hQ, hl', hk', hn'⟩, st⟩ := Jvm.LawKit.callS X hx hown (mvT hZ w1) (mvT hZ w2) (mvT hZ w3) (mvT hZ w4) hy (backOf (W := W) hM hZ w4 w3 hf hl) hg hsize hlen hstack hW hd (fun _ _ => ⟨rfl, eT, hc, hs⟩)
  dsimp only [Pt.U, Pt.locs, Pt.cells, Pt.slots] at X' hl' hk' hn' st hQ
  subst hl' hk' hn'
  exact ⟨v, T', L, X', hQ, st⟩
theorem specQ (X : Stand p l e R s m args below meth c T locs cells slots) (hx : p.tables.exec = Jvm.exec) (hZ : Z.Warmed39 s.vm) {own : String} {index : Nat} {y : MethodName} {bytes : ByteArray} {maxL : Nat} (hy1 : y.name = "<init>") (hown : s.vm.findClass own = some m.cls)
    (w1 : (Cond.methodLink own index y).before a0 Z = true) (w2 : (Cond.instanceMethod y).before a0 Z = true) (w3 : (Cond.initialized y.cls).before a0 Z = true) (w4 : (Cond.code y bytes maxL none).before a0 Z = true) (hy : y.cls ≠ "java/lang/invoke/MethodHandle" ∧ y.cls ≠ "java/lang/invoke/VarHandle")
    {rm : Room} {a : Addr} {argsL rest : List Value} {Q : Option Value → Heap → List Loc → Prop} (hM : Meets1 l y bytes maxL none rm Z (.ref a :: argsL).toArray h Q) {W : Nat} (hf : rm.frames + 1 ≤ R.frames) (hl : W + (maxL + 11) + rm.locals ≤ R.locals) (eT : T.heap = h)
    {g : JFrame} (hg : g.method = m) (hsize : g.locals.size = c.maxLocals) (hlen : ∀ sig, parseMethodDescriptor y.desc = some sig → argsL.length = sig.parameters.length) (hstack : g.stack = argsL.reverse ++ .ref a :: rest) (hW : 2 * g.monitorRoom + (rest.map fun v => v.category).sum ≤ W) (hd : decode c.code g.pc = .ok (.invokespecial index, 3)) (hc : cells + rm.cells ≤ R.cells) (hs : slots + rm.slots ≤ R.slots) :
    ∃ v T' L, Stand p l e R s m args below meth c T' (locs ++ L) (cells + rm.cells) (slots + rm.slots) ∧ Q v T'.heap L ∧ ∀ target, Steps p.tables e below (T'.setTop { g with pc := g.pc + 3, stack := v.toList ++ rest }) target → Steps p.tables e below (T.setTop g) target := by
  obtain ⟨v, _, ⟨T', L', k', n'⟩, -, X', ⟨L, hQ, hl', hk', hn'⟩, st⟩ := X.specialBack hx hy1 hown (mvT hZ w1) (mvT hZ w2) (mvT hZ w4) hy (backOf (W := W) hM hZ w4 w3 hf hl) hg hsize (Steps.refl _) hlen hstack hW hd (fun _ _ => ⟨rfl, eT, hc, hs⟩)
  dsimp only [Pt.U, Pt.locs, Pt.cells, Pt.slots] at X' hl' hk' hn' st hQ
  subst hl' hk' hn'
  exact ⟨v, T', L, X', hQ, fun t k => st.trans k⟩
theorem virtQ (X : Stand p l e R s m args below meth c T locs cells slots) (hx : p.tables.exec = Jvm.exec) (hZ : Z.Warmed39 s.vm) {own : String} {index : Nat} {y : MethodName} {bytes : ByteArray} {maxL : Nat} {ret : Option FieldType} (hown : s.vm.findClass own = some m.cls)
    (w1 : (Cond.methodLink own index y).before a0 Z = true) (w2 : (Cond.instanceMethod y).before a0 Z = true) (w3 : (Cond.initialized y.cls).before a0 Z = true) (w4 : (Cond.code y bytes maxL ret).before a0 Z = true) (w5 : (Cond.declares y).before a0 Z = true) (w6 : (Cond.selects y.cls y y).before a0 Z = true) (hy : y.cls ≠ "java/lang/invoke/MethodHandle" ∧ y.cls ≠ "java/lang/invoke/VarHandle")
    {rm : Room} {a : Addr} (E : Exa Z h a y.cls) {argsL rest : List Value} {Q : Option Value → Heap → List Loc → Prop} (hM : Meets1 l y bytes maxL ret rm Z (.ref a :: argsL).toArray h Q) {W : Nat} (hf : rm.frames + 1 ≤ R.frames) (hl : W + (maxL + 11) + rm.locals ≤ R.locals) (eT : T.heap = h)
    {g : JFrame} (hg : g.method = m) (hsize : g.locals.size = c.maxLocals) (hlen : ∀ sig, parseMethodDescriptor y.desc = some sig → argsL.length = sig.parameters.length) (hstack : g.stack = argsL.reverse ++ .ref a :: rest) (hW : 2 * g.monitorRoom + (rest.map fun v => v.category).sum ≤ W) (hd : decode c.code g.pc = .ok (.invokevirtual index, 3)) (hc : cells + rm.cells ≤ R.cells) (hs : slots + rm.slots ≤ R.slots) :
    ∃ v T' L, Stand p l e R s m args below meth c T' (locs ++ L) (cells + rm.cells) (slots + rm.slots) ∧ Q v T'.heap L ∧ ∀ target, Steps p.tables e below (T'.setTop { g with pc := g.pc + 3, stack := v.toList ++ rest }) target → Steps p.tables e below (T.setTop g) target := by
  obtain ⟨cq, kq, qa, qb, qc⟩ := isOf hZ eT E
  obtain ⟨v, _, ⟨T', L', k', n'⟩, -, X', ⟨L, hQ, hl', hk', hn'⟩, st⟩ := X.virtualBack hx (y := y) (z := y) hown (mvT hZ w1) (mvT hZ w5) (notFace_of_selects (args := #[]) (mvT hZ w6)) (mvT hZ w6) (mvT hZ w2) hy (backOf (W := W) hM hZ w4 w3 hf hl) qa qc hg hsize (Steps.refl _) hlen hstack hW hd (fun _ _ => ⟨rfl, eT, hc, hs⟩)
  dsimp only [Pt.U, Pt.locs, Pt.cells, Pt.slots] at X' hl' hk' hn' st hQ
  subst hl' hk' hn'
  exact ⟨v, T', L, X', hQ, fun t k => st.trans k⟩
theorem privQ (X : Stand p l e R s m args below meth c T locs cells slots) (hx : p.tables.exec = Jvm.exec) (hZ : Z.Warmed39 s.vm) {own : String} {index : Nat} {y : MethodName} {bytes : ByteArray} {maxL : Nat} {ret : Option FieldType} (hown : s.vm.findClass own = some m.cls)
    (w1 : (Cond.methodLink own index y).before a0 Z = true) (w2 : (Cond.instanceMethod y).before a0 Z = true) (w3 : (Cond.initialized y.cls).before a0 Z = true) (w4 : (Cond.code y bytes maxL ret).before a0 Z = true) (w5 : (Cond.privateMethod y).before a0 Z = true) (w6 : (Cond.selects y.cls y y).before a0 Z = true) (hy : y.cls ≠ "java/lang/invoke/MethodHandle" ∧ y.cls ≠ "java/lang/invoke/VarHandle")
    {rm : Room} {a : Addr} {C : String} (E : Exa Z h a C) {argsL rest : List Value} {Q : Option Value → Heap → List Loc → Prop} (hM : Meets1 l y bytes maxL ret rm Z (.ref a :: argsL).toArray h Q) {W : Nat} (hf : rm.frames + 1 ≤ R.frames) (hl : W + (maxL + 11) + rm.locals ≤ R.locals) (eT : T.heap = h)
    {g : JFrame} (hg : g.method = m) (hsize : g.locals.size = c.maxLocals) (hlen : ∀ sig, parseMethodDescriptor y.desc = some sig → argsL.length = sig.parameters.length) (hstack : g.stack = argsL.reverse ++ .ref a :: rest) (hW : 2 * g.monitorRoom + (rest.map fun v => v.category).sum ≤ W) (hd : decode c.code g.pc = .ok (.invokevirtual index, 3)) (hc : cells + rm.cells ≤ R.cells) (hs : slots + rm.slots ≤ R.slots) :
    ∃ v T' L, Stand p l e R s m args below meth c T' (locs ++ L) (cells + rm.cells) (slots + rm.slots) ∧ Q v T'.heap L ∧ ∀ target, Steps p.tables e below (T'.setTop { g with pc := g.pc + 3, stack := v.toList ++ rest }) target → Steps p.tables e below (T.setTop g) target := by
  obtain ⟨cq, q1, q2⟩ := E.cell
  obtain ⟨v, _, ⟨T', L', k', n'⟩, -, X', ⟨L, hQ, hl', hk', hn'⟩, st⟩ := X.privateBack hx (y := y) hown (mvT hZ w1) (mvT hZ w2) (mvT hZ w6) (Cond.privateMethod_at (mvP hZ w5 (args := #[]))) (mvT hZ w4) hy (backOf (W := W) hM hZ w4 w3 hf hl) hg hsize (Steps.refl _) (a := a) (by rw [eT]; exact q1) q2 hlen hstack hW hd (fun _ _ => ⟨rfl, eT, hc, hs⟩)
  dsimp only [Pt.U, Pt.locs, Pt.cells, Pt.slots] at X' hl' hk' hn' st hQ
  subst hl' hk' hn'
  exact ⟨v, T', L, X', hQ, fun t k => st.trans k⟩
end Calls
section Chars
variable {Z : State} {h h' : Heap} {a b : Addr} {ty : FieldType} {n i : Nat} {j : Int32} {f : Nat → Value} {p : Program} {l : Launch} {e : Env} {R : Room} {s : State} {m : MethodId} {args : Array Value} {below : List Frame} {meth : Method} {c : Code} {T : State} {locs : List Loc} {cells slots : Nat} {rest : List Value} {g : JFrame} {a0 : Array Value}
theorem wrC (X : Stand p l e R s m args below meth c T locs cells slots) (hx : p.tables.exec = Jvm.exec) (hZ : Z.Warmed39 s.vm) (eT : T.heap = h) (F : Ara Z h a .char n f) {y : Int32} (hj0 : ¬ j < 0) (hj : j.toNatClampNeg = i) (hi : i < n) {y' : Int32} (hy : nar .char y = y') (hg : g.method = m) (hs : g.stack = .int y :: .int j :: .ref a :: rest) (hd : decode c.code g.pc = .ok (.castore, 1)) :
    ∃ T' h', Stand p l e R s m args below meth c T' (locs ++ [⟨a, i⟩]) cells slots ∧ T'.heap = h' ∧ Wr h h' a i (.int y') ∧ ∀ target, Steps p.tables e below (T'.setTop { g with pc := g.pc + 1, stack := rest }) target → Steps p.tables e below (T.setTop g) target := by
  subst hj hy
  obtain ⟨cl, A, r1, r2, r3⟩ := F
  exact stC X hx hZ eT A (hin_of r1 hj0 rfl hi) hg hs hd
theorem Ara.arv {N : Int32} {vs : List Value} {d : Value} (F : Ara Z h a ty n f) (hN : N.toNatClampNeg = n) (hN0 : ¬ N < 0) (hv : ∀ i, i < n → vs.getD i d = f i) (hf : ∀ i, i < n → fits ty (f i) = true) : ∃ k, Arv Z h a k ty N vs d := by
  obtain ⟨cl, A, r1, r2, r3⟩ := F
  exact ⟨cl.cls, cl, A, rfl, by rw [r1, hN], hN0, fun i hi => by rw [r1] at hi; rw [hv i hi]; exact r3 i hi, fun i hi => by rw [r1] at hi; rw [hv i hi]; exact hf i hi⟩
theorem own_ch (x : Int32) : nar .char ((x &&& (255 : Int32)).toUInt32.toUInt16.toUInt32.toInt32) = (x &&& (255 : Int32)) := by
  rw [i2c_mask]; exact i2c_mask x
theorem own_lat (x : Int32) : ¬ (x &&& (255 : Int32)) < 0 ∧ ¬ (255 : Int32) < (x &&& (255 : Int32)) := by
  have := c_and x 255 (by decide)
  simp only [Int32.lt_iff_toInt_lt, Int32.reduceToInt] at *
  omega
theorem own_fitc (x : Int32) : fits .char (.int (x &&& (255 : Int32))) = true := by rw [← own_ch x]; exact fits_nar_char _
end Chars

theorem ef_rm7 (m : MethodId) (o0 : Addr) : entryFrame m #[(.ref o0)] 1 = mkF m 0 #[.val (.ref o0)] [] := by first | (simp [entryFrame, mkF, argsToLocals, Value.category]; done) | rfl
theorem pn_0 : plainName "com/example/tickwright/tickwright/io/ReplaySummary" = true := by first | (simp [plainName, overriddenIn]; done) | decide +kernel
def Q_rm7 (Z : State) (o0 : Addr)  (h0 : Heap) (n0 : Nat) (v : Option Value) (h : Heap) (L : List Loc) : Prop := v = none ∧ Fr n0 L ∧ h = h0
theorem d7_0 : decode prog_23_method_1_code 0 = .ok (.aload_n 0, 1) := by decide +kernel
theorem d7_1 : decode prog_23_method_1_code 1 = .ok (.invokespecial 1, 3) := by decide +kernel
theorem d7_4 : decode prog_23_method_1_code 4 = .ok (.return_, 1) := by decide +kernel
set_option maxRecDepth 65536 in
set_option maxHeartbeats 40000000 in
theorem rm7 (l : Launch) (Z : State) (a0 : Array Value) (hw : ∀ d ∈ tables_1, d.before a0 Z = true) (ws : List Jvm.Cond) (o0 : Addr)  (h0 : Heap) (n0 : Nat) (Z0 : n0 ≤ h0.size)  :
    MetFree l (⟨"com/example/tickwright/tickwright/io/ReplaySummary", "<init>", "()V"⟩ : MethodName) (head1 (Jvm.Cond.code (⟨"com/example/tickwright/tickwright/io/ReplaySummary", "<init>", "()V"⟩ : MethodName) prog_23_method_1_code 1 none :: ws) ({ frames := 1, cells := 0, slots := 0, locals := 12 } : Room)) (fun a U => a = #[(.ref o0)] ∧ Z.Warmed39 U.vm ∧ U.heap = h0) (fun _ _ _ _ _ => True) (fun _ U o U' => ∃ v L, o = .returned v ∧ (Q_rm7 Z o0 h0 n0) v U'.heap L ∧ FrameEnd U o U' L ({ frames := 1, cells := 0, slots := 0, locals := 12 } : Room).cells ({ frames := 1, cells := 0, slots := 0, locals := 12 } : Room).slots) := by
  refine MetFree.of_bodySF (plainFor_of_name pn_0) hisR ?_
  intro p e s m args below meth c s₁ Bd hml0 hP hK
  obtain ⟨rfl, hZ, hh⟩ := hP
  have hx := Bd.exec
  have hby := Bd.bytes
  have hml : c.maxLocals = 1 := hml0
  have hown : s.vm.findClass "com/example/tickwright/tickwright/io/ReplaySummary" = some m.cls := findClass_of_methodNamed Bd.named
  have hnm := (name_of_methodNamed Bd.named Bd.method).1
  have X0 : Stand p l e ({ frames := 1, cells := 0, slots := 0, locals := 12 } : Room) s m #[(.ref o0)] below meth c s₁ [] 0 0 := Stand.of_body Bd
  have e0 : s₁.heap = h0 := by rw [← hh, Bd.state]; rfl
  have N0 := Fr.nil n0
  show OFin p e below (ORet (Q_rm7 Z o0 h0 n0) s ({ frames := 1, cells := 0, slots := 0, locals := 12 } : Room).cells ({ frames := 1, cells := 0, slots := 0, locals := 12 } : Room).slots) (s₁.setTop (entryFrame m #[(.ref o0)] 1))
  refine OFin.go (fun t k => castTop (ef_rm7 m o0) k) ?_
  show OFin p e below (ORet (Q_rm7 Z o0 h0 n0) s ({ frames := 1, cells := 0, slots := 0, locals := 12 } : Room).cells ({ frames := 1, cells := 0, slots := 0, locals := 12 } : Room).slots) (s₁.setTop (mkF m 0 #[.val (.ref o0)] []))
  have S1 : ∀ t, Steps p.tables e below (s₁.setTop (mkF m 1 #[.val (.ref o0)] [(.ref o0)])) t → Steps p.tables e below (s₁.setTop (mkF m 0 #[.val (.ref o0)] [])) t := by
    intro t k
    show Steps p.tables e below (s₁.setTop (mkF m 0 #[.val (.ref o0)] [])) t
    refine XS.aloadN X0.here hx rfl (hb hby d7_0) rfl rfl ?_
    exact k
  refine OFin.go S1 ?_
  obtain ⟨T2, X2, e2, st2⟩ := initO X0 hx hZ hown (hw _ (List.mem_of_getElem? (i := 36) rfl)) (hw _ (List.mem_of_getElem? (i := 12) rfl)) (hw _ (List.mem_of_getElem? (i := 13) rfl)) e0 (g := (mkF m 1 #[.val (.ref o0)] [(.ref o0)])) rfl (by rw [hml]; rfl) rfl (hb hby d7_1) (by decide) (W := 0) (by show 2 * 0 + _ ≤ _; exact Nat.le_of_eq rfl) (by decide)
  refine OFin.go st2 ?_
  show OFin p e below _ (T2.setTop (mkF m 4 #[.val (.ref o0)] []))
  exact finV X2 hx Bd.notSynchronized Bd.returns (hb hby d7_4) (by decide) (by decide) (⟨rfl, N0, e2⟩)
theorem ef_rm8 (m : MethodId) (o0 : Addr) : entryFrame m #[(.ref o0)] 1 = mkF m 0 #[.val (.ref o0)] [] := by first | (simp [entryFrame, mkF, argsToLocals, Value.category]; done) | rfl
def Q_rm8 (Z : State) (o0 : Addr) (x : Int64) (h0 : Heap) (n0 : Nat) (v : Option Value) (h : Heap) (L : List Loc) : Prop := v = some (.long x) ∧ Fr n0 L ∧ h = h0
theorem d8_0 : decode prog_23_method_13_code 0 = .ok (.aload_n 0, 1) := by decide +kernel
theorem d8_1 : decode prog_23_method_13_code 1 = .ok (.getfield 19, 3) := by decide +kernel
theorem d8_4 : decode prog_23_method_13_code 4 = .ok (.lreturn, 1) := by decide +kernel
set_option maxRecDepth 65536 in
set_option maxHeartbeats 40000000 in
theorem rm8 (l : Launch) (Z : State) (a0 : Array Value) (hw : ∀ d ∈ tables_1, d.before a0 Z = true) (ws : List Jvm.Cond) (o0 : Addr) (x : Int64) (h0 : Heap) (n0 : Nat) (Z0 : n0 ≤ h0.size) (F0 : Fld Z h0 o0 "com/example/tickwright/tickwright/io/ReplaySummary" "fills" "J" (.long x)) :
    MetFree l (⟨"com/example/tickwright/tickwright/io/ReplaySummary", "fills", "()J"⟩ : MethodName) (head1 (Jvm.Cond.code (⟨"com/example/tickwright/tickwright/io/ReplaySummary", "fills", "()J"⟩ : MethodName) prog_23_method_13_code 1 (some .long) :: ws) ({ frames := 0, cells := 0, slots := 0, locals := 0 } : Room)) (fun a U => a = #[(.ref o0)] ∧ Z.Warmed39 U.vm ∧ U.heap = h0) (fun _ _ _ _ _ => True) (fun _ U o U' => ∃ v L, o = .returned v ∧ (Q_rm8 Z o0 x h0 n0) v U'.heap L ∧ FrameEnd U o U' L ({ frames := 0, cells := 0, slots := 0, locals := 0 } : Room).cells ({ frames := 0, cells := 0, slots := 0, locals := 0 } : Room).slots) := by
  refine MetFree.of_bodySF (plainFor_of_name pn_0) hisR ?_
  intro p e s m args below meth c s₁ Bd hml0 hP hK
  obtain ⟨rfl, hZ, hh⟩ := hP
  have hx := Bd.exec
  have hby := Bd.bytes
  have hml : c.maxLocals = 1 := hml0
  have hown : s.vm.findClass "com/example/tickwright/tickwright/io/ReplaySummary" = some m.cls := findClass_of_methodNamed Bd.named
  have hnm := (name_of_methodNamed Bd.named Bd.method).1
  have X0 : Stand p l e ({ frames := 0, cells := 0, slots := 0, locals := 0 } : Room) s m #[(.ref o0)] below meth c s₁ [] 0 0 := Stand.of_body Bd
  have e0 : s₁.heap = h0 := by rw [← hh, Bd.state]; rfl
  have N0 := Fr.nil n0
  show OFin p e below (ORet (Q_rm8 Z o0 x h0 n0) s ({ frames := 0, cells := 0, slots := 0, locals := 0 } : Room).cells ({ frames := 0, cells := 0, slots := 0, locals := 0 } : Room).slots) (s₁.setTop (entryFrame m #[(.ref o0)] 1))
  refine OFin.go (fun t k => castTop (ef_rm8 m o0) k) ?_
  show OFin p e below (ORet (Q_rm8 Z o0 x h0 n0) s ({ frames := 0, cells := 0, slots := 0, locals := 0 } : Room).cells ({ frames := 0, cells := 0, slots := 0, locals := 0 } : Room).slots) (s₁.setTop (mkF m 0 #[.val (.ref o0)] []))
  have S1 : ∀ t, Steps p.tables e below (s₁.setTop (mkF m 1 #[.val (.ref o0)] [(.ref o0)])) t → Steps p.tables e below (s₁.setTop (mkF m 0 #[.val (.ref o0)] [])) t := by
    intro t k
    show Steps p.tables e below (s₁.setTop (mkF m 0 #[.val (.ref o0)] [])) t
    refine XS.aloadN X0.here hx rfl (hb hby d8_0) rfl rfl ?_
    exact k
  refine OFin.go S1 ?_
  obtain ⟨T2, X2, e2, st2⟩ := getF X0 hx hZ hown (host := "") (Or.inl (hw _ (List.mem_of_getElem? (i := 42) rfl))) Via.refl e0 F0 (g := (mkF m 1 #[.val (.ref o0)] [(.ref o0)])) rfl rfl (hb hby d8_1)
  refine OFin.go st2 ?_
  show OFin p e below _ (T2.setTop (mkF m 4 #[.val (.ref o0)] [(.long x)]))
  exact finJ X2 hx Bd.notSynchronized Bd.returns (hb hby d8_4) (by decide) (by decide) (⟨rfl, N0, e2⟩)
theorem ef_rm9 (m : MethodId) (o0 : Addr) : entryFrame m #[(.ref o0)] 1 = mkF m 0 #[.val (.ref o0)] [] := by first | (simp [entryFrame, mkF, argsToLocals, Value.category]; done) | rfl
def Q_rm9 (Z : State) (o0 : Addr) (x : Int64) (h0 : Heap) (n0 : Nat) (v : Option Value) (h : Heap) (L : List Loc) : Prop := v = some (.long x) ∧ Fr n0 L ∧ h = h0
theorem d9_0 : decode prog_23_method_14_code 0 = .ok (.aload_n 0, 1) := by decide +kernel
theorem d9_1 : decode prog_23_method_14_code 1 = .ok (.getfield 22, 3) := by decide +kernel
theorem d9_4 : decode prog_23_method_14_code 4 = .ok (.lreturn, 1) := by decide +kernel
set_option maxRecDepth 65536 in
set_option maxHeartbeats 40000000 in
theorem rm9 (l : Launch) (Z : State) (a0 : Array Value) (hw : ∀ d ∈ tables_1, d.before a0 Z = true) (ws : List Jvm.Cond) (o0 : Addr) (x : Int64) (h0 : Heap) (n0 : Nat) (Z0 : n0 ≤ h0.size) (F0 : Fld Z h0 o0 "com/example/tickwright/tickwright/io/ReplaySummary" "filledShares" "J" (.long x)) :
    MetFree l (⟨"com/example/tickwright/tickwright/io/ReplaySummary", "filledShares", "()J"⟩ : MethodName) (head1 (Jvm.Cond.code (⟨"com/example/tickwright/tickwright/io/ReplaySummary", "filledShares", "()J"⟩ : MethodName) prog_23_method_14_code 1 (some .long) :: ws) ({ frames := 0, cells := 0, slots := 0, locals := 0 } : Room)) (fun a U => a = #[(.ref o0)] ∧ Z.Warmed39 U.vm ∧ U.heap = h0) (fun _ _ _ _ _ => True) (fun _ U o U' => ∃ v L, o = .returned v ∧ (Q_rm9 Z o0 x h0 n0) v U'.heap L ∧ FrameEnd U o U' L ({ frames := 0, cells := 0, slots := 0, locals := 0 } : Room).cells ({ frames := 0, cells := 0, slots := 0, locals := 0 } : Room).slots) := by
  refine MetFree.of_bodySF (plainFor_of_name pn_0) hisR ?_
  intro p e s m args below meth c s₁ Bd hml0 hP hK
  obtain ⟨rfl, hZ, hh⟩ := hP
  have hx := Bd.exec
  have hby := Bd.bytes
  have hml : c.maxLocals = 1 := hml0
  have hown : s.vm.findClass "com/example/tickwright/tickwright/io/ReplaySummary" = some m.cls := findClass_of_methodNamed Bd.named
  have hnm := (name_of_methodNamed Bd.named Bd.method).1
  have X0 : Stand p l e ({ frames := 0, cells := 0, slots := 0, locals := 0 } : Room) s m #[(.ref o0)] below meth c s₁ [] 0 0 := Stand.of_body Bd
  have e0 : s₁.heap = h0 := by rw [← hh, Bd.state]; rfl
  have N0 := Fr.nil n0
  show OFin p e below (ORet (Q_rm9 Z o0 x h0 n0) s ({ frames := 0, cells := 0, slots := 0, locals := 0 } : Room).cells ({ frames := 0, cells := 0, slots := 0, locals := 0 } : Room).slots) (s₁.setTop (entryFrame m #[(.ref o0)] 1))
  refine OFin.go (fun t k => castTop (ef_rm9 m o0) k) ?_
  show OFin p e below (ORet (Q_rm9 Z o0 x h0 n0) s ({ frames := 0, cells := 0, slots := 0, locals := 0 } : Room).cells ({ frames := 0, cells := 0, slots := 0, locals := 0 } : Room).slots) (s₁.setTop (mkF m 0 #[.val (.ref o0)] []))
  have S1 : ∀ t, Steps p.tables e below (s₁.setTop (mkF m 1 #[.val (.ref o0)] [(.ref o0)])) t → Steps p.tables e below (s₁.setTop (mkF m 0 #[.val (.ref o0)] [])) t := by
    intro t k
    show Steps p.tables e below (s₁.setTop (mkF m 0 #[.val (.ref o0)] [])) t
    refine XS.aloadN X0.here hx rfl (hb hby d9_0) rfl rfl ?_
    exact k
  refine OFin.go S1 ?_
  obtain ⟨T2, X2, e2, st2⟩ := getF X0 hx hZ hown (host := "") (Or.inl (hw _ (List.mem_of_getElem? (i := 49) rfl))) Via.refl e0 F0 (g := (mkF m 1 #[.val (.ref o0)] [(.ref o0)])) rfl rfl (hb hby d9_1)
  refine OFin.go st2 ?_
  show OFin p e below _ (T2.setTop (mkF m 4 #[.val (.ref o0)] [(.long x)]))
  exact finJ X2 hx Bd.notSynchronized Bd.returns (hb hby d9_4) (by decide) (by decide) (⟨rfl, N0, e2⟩)
theorem ef_rm10 (m : MethodId) (o0 : Addr) (o1 : Addr) (o2 : Addr) (y : Int64) (z : Int64) : entryFrame m #[(.ref o0), (.ref o1), (.ref o2), (.long y), (.long z)] 7 = mkF m 0 #[.val (.ref o0), .val (.ref o1), .val (.ref o2), .val (.long y), .second, .val (.long z), .second] [] := by first | (simp [entryFrame, mkF, argsToLocals, Value.category]; done) | rfl
def Q_rm10 (Z : State) (o0 : Addr) (o1 : Addr) (o2 : Addr) (y : Int64) (z : Int64) (x0 x1 : Int64) (h0 : Heap) (n0 : Nat) (v : Option Value) (h : Heap) (L : List Loc) : Prop := v = none ∧ Fr n0 L ∧ Keep h0 h [o0] ∧ Fld Z h o0 "com/example/tickwright/tickwright/io/ReplaySummary" "fills" "J" (.long (x0 + (1 : Int64))) ∧ Fld Z h o0 "com/example/tickwright/tickwright/io/ReplaySummary" "filledShares" "J" (.long (x1 + y))
theorem d10_0 : decode prog_23_method_4_code 0 = .ok (.aload_n 0, 1) := by decide +kernel
theorem d10_1 : decode prog_23_method_4_code 1 = .ok (.dup, 1) := by decide +kernel
theorem d10_2 : decode prog_23_method_4_code 2 = .ok (.getfield 19, 3) := by decide +kernel
theorem d10_5 : decode prog_23_method_4_code 5 = .ok (.lconst 1, 1) := by decide +kernel
theorem d10_6 : decode prog_23_method_4_code 6 = .ok (.ladd, 1) := by decide +kernel
theorem d10_7 : decode prog_23_method_4_code 7 = .ok (.putfield 19, 3) := by decide +kernel
theorem d10_10 : decode prog_23_method_4_code 10 = .ok (.aload_n 0, 1) := by decide +kernel
theorem d10_11 : decode prog_23_method_4_code 11 = .ok (.dup, 1) := by decide +kernel
theorem d10_12 : decode prog_23_method_4_code 12 = .ok (.getfield 22, 3) := by decide +kernel
theorem d10_15 : decode prog_23_method_4_code 15 = .ok (.lload_n 3, 1) := by decide +kernel
theorem d10_16 : decode prog_23_method_4_code 16 = .ok (.ladd, 1) := by decide +kernel
theorem d10_17 : decode prog_23_method_4_code 17 = .ok (.putfield 22, 3) := by decide +kernel
theorem d10_20 : decode prog_23_method_4_code 20 = .ok (.return_, 1) := by decide +kernel
set_option maxRecDepth 65536 in
set_option maxHeartbeats 40000000 in
theorem rm10 (l : Launch) (Z : State) (a0 : Array Value) (hw : ∀ d ∈ tables_1, d.before a0 Z = true) (ws : List Jvm.Cond) (o0 : Addr) (o1 : Addr) (o2 : Addr) (y : Int64) (z : Int64) (x0 x1 : Int64) (h0 : Heap) (n0 : Nat) (Z0 : n0 ≤ h0.size) (ge0 : n0 ≤ o0) (E0 : Exa Z h0 o0 "com/example/tickwright/tickwright/io/ReplaySummary") (F0 : Fld Z h0 o0 "com/example/tickwright/tickwright/io/ReplaySummary" "fills" "J" (.long x0)) (F1 : Fld Z h0 o0 "com/example/tickwright/tickwright/io/ReplaySummary" "filledShares" "J" (.long x1)) :
    MetFree l (⟨"com/example/tickwright/tickwright/io/ReplaySummary", "fill", "(Ljava/lang/String;Ljava/lang/String;JJ)V"⟩ : MethodName) (head1 (Jvm.Cond.code (⟨"com/example/tickwright/tickwright/io/ReplaySummary", "fill", "(Ljava/lang/String;Ljava/lang/String;JJ)V"⟩ : MethodName) prog_23_method_4_code 7 none :: ws) ({ frames := 0, cells := 0, slots := 0, locals := 0 } : Room)) (fun a U => a = #[(.ref o0), (.ref o1), (.ref o2), (.long y), (.long z)] ∧ Z.Warmed39 U.vm ∧ U.heap = h0) (fun _ _ _ _ _ => True) (fun _ U o U' => ∃ v L, o = .returned v ∧ (Q_rm10 Z o0 o1 o2 y z x0 x1 h0 n0) v U'.heap L ∧ FrameEnd U o U' L ({ frames := 0, cells := 0, slots := 0, locals := 0 } : Room).cells ({ frames := 0, cells := 0, slots := 0, locals := 0 } : Room).slots) := by
  refine MetFree.of_bodySF (plainFor_of_name pn_0) hisR ?_
  intro p e s m args below meth c s₁ Bd hml0 hP hK
  obtain ⟨rfl, hZ, hh⟩ := hP
  have hx := Bd.exec
  have hby := Bd.bytes
  have hml : c.maxLocals = 7 := hml0
  have hown : s.vm.findClass "com/example/tickwright/tickwright/io/ReplaySummary" = some m.cls := findClass_of_methodNamed Bd.named
  have hnm := (name_of_methodNamed Bd.named Bd.method).1
  have X0 : Stand p l e ({ frames := 0, cells := 0, slots := 0, locals := 0 } : Room) s m #[(.ref o0), (.ref o1), (.ref o2), (.long y), (.long z)] below meth c s₁ [] 0 0 := Stand.of_body Bd
  have e0 : s₁.heap = h0 := by rw [← hh, Bd.state]; rfl
  have N0 := Fr.nil n0
  show OFin p e below (ORet (Q_rm10 Z o0 o1 o2 y z x0 x1 h0 n0) s ({ frames := 0, cells := 0, slots := 0, locals := 0 } : Room).cells ({ frames := 0, cells := 0, slots := 0, locals := 0 } : Room).slots) (s₁.setTop (entryFrame m #[(.ref o0), (.ref o1), (.ref o2), (.long y), (.long z)] 7))
  refine OFin.go (fun t k => castTop (ef_rm10 m o0 o1 o2 y z) k) ?_
  have K0 := Keep.refl h0 [o0]
  show OFin p e below (ORet (Q_rm10 Z o0 o1 o2 y z x0 x1 h0 n0) s ({ frames := 0, cells := 0, slots := 0, locals := 0 } : Room).cells ({ frames := 0, cells := 0, slots := 0, locals := 0 } : Room).slots) (s₁.setTop (mkF m 0 #[.val (.ref o0), .val (.ref o1), .val (.ref o2), .val (.long y), .second, .val (.long z), .second] []))
  have S1 : ∀ t, Steps p.tables e below (s₁.setTop (mkF m 2 #[.val (.ref o0), .val (.ref o1), .val (.ref o2), .val (.long y), .second, .val (.long z), .second] [(.ref o0), (.ref o0)])) t → Steps p.tables e below (s₁.setTop (mkF m 0 #[.val (.ref o0), .val (.ref o1), .val (.ref o2), .val (.long y), .second, .val (.long z), .second] [])) t := by
    intro t k
    show Steps p.tables e below (s₁.setTop (mkF m 0 #[.val (.ref o0), .val (.ref o1), .val (.ref o2), .val (.long y), .second, .val (.long z), .second] [])) t
    refine XS.aloadN X0.here hx rfl (hb hby d10_0) rfl rfl ?_
    show Steps p.tables e below (s₁.setTop (mkF m 1 #[.val (.ref o0), .val (.ref o1), .val (.ref o2), .val (.long y), .second, .val (.long z), .second] [(.ref o0)])) t
    refine XS.dup X0.here hx rfl (hb hby d10_1) rfl rfl ?_
    exact k
  refine OFin.go S1 ?_
  obtain ⟨T2, X2, e2, st2⟩ := getF X0 hx hZ hown (host := "") (Or.inl (hw _ (List.mem_of_getElem? (i := 42) rfl))) Via.refl e0 F0 (g := (mkF m 2 #[.val (.ref o0), .val (.ref o1), .val (.ref o2), .val (.long y), .second, .val (.long z), .second] [(.ref o0), (.ref o0)])) rfl rfl (hb hby d10_2)
  refine OFin.go st2 ?_
  show OFin p e below _ (T2.setTop (mkF m 5 #[.val (.ref o0), .val (.ref o1), .val (.ref o2), .val (.long y), .second, .val (.long z), .second] [(.long x0), (.ref o0)]))
  have S3 : ∀ t, Steps p.tables e below (T2.setTop (mkF m 7 #[.val (.ref o0), .val (.ref o1), .val (.ref o2), .val (.long y), .second, .val (.long z), .second] [(.long (x0 + (1 : Int64))), (.ref o0)])) t → Steps p.tables e below (T2.setTop (mkF m 5 #[.val (.ref o0), .val (.ref o1), .val (.ref o2), .val (.long y), .second, .val (.long z), .second] [(.long x0), (.ref o0)])) t := by
    intro t k
    show Steps p.tables e below (T2.setTop (mkF m 5 #[.val (.ref o0), .val (.ref o1), .val (.ref o2), .val (.long y), .second, .val (.long z), .second] [(.long x0), (.ref o0)])) t
    refine XS.lconst X2.here hx rfl (hb hby d10_5) ?_
    show Steps p.tables e below (T2.setTop (mkF m 6 #[.val (.ref o0), .val (.ref o1), .val (.ref o2), .val (.long y), .second, .val (.long z), .second] [(.long (1 : Int64)), (.long x0), (.ref o0)])) t
    refine XS.ladd X2.here hx rfl (hb hby d10_6) rfl ?_
    exact k
  refine OFin.go S3 ?_
  obtain ⟨T4, h4, X4, e4, W4, st4⟩ := putF X2 hx hZ hown (host := "") (Or.inl (hw _ (List.mem_of_getElem? (i := 42) rfl))) Via.refl e2 F0 E0 (Or.inl (hw _ (List.mem_of_getElem? (i := 43) rfl))) (hw _ (List.mem_of_getElem? (i := 31) rfl)) (ty := .long) (by decide) rfl rfl (g := (mkF m 7 #[.val (.ref o0), .val (.ref o1), .val (.ref o2), .val (.long y), .second, .val (.long z), .second] [(.long (x0 + (1 : Int64))), (.ref o0)])) rfl rfl (hb hby d10_7)
  have Fw4 := F0.same W4
  have N4 := Fr.snoc X4 N0 ge0
  have Z4 : n0 ≤ h4.size := Nat.le_trans Z0 (wr_le W4)
  have K4 := Keep.wr K0 W4 (Or.inl (List.mem_of_getElem? (i := 0) rfl))
  refine OFin.go st4 ?_
  show OFin p e below _ (T4.setTop (mkF m 10 #[.val (.ref o0), .val (.ref o1), .val (.ref o2), .val (.long y), .second, .val (.long z), .second] []))
  have S5 : ∀ t, Steps p.tables e below (T4.setTop (mkF m 12 #[.val (.ref o0), .val (.ref o1), .val (.ref o2), .val (.long y), .second, .val (.long z), .second] [(.ref o0), (.ref o0)])) t → Steps p.tables e below (T4.setTop (mkF m 10 #[.val (.ref o0), .val (.ref o1), .val (.ref o2), .val (.long y), .second, .val (.long z), .second] [])) t := by
    intro t k
    show Steps p.tables e below (T4.setTop (mkF m 10 #[.val (.ref o0), .val (.ref o1), .val (.ref o2), .val (.long y), .second, .val (.long z), .second] [])) t
    refine XS.aloadN X4.here hx rfl (hb hby d10_10) rfl rfl ?_
    show Steps p.tables e below (T4.setTop (mkF m 11 #[.val (.ref o0), .val (.ref o1), .val (.ref o2), .val (.long y), .second, .val (.long z), .second] [(.ref o0)])) t
    refine XS.dup X4.here hx rfl (hb hby d10_11) rfl rfl ?_
    exact k
  refine OFin.go S5 ?_
  have F6 := F1.other W4 (Or.inr (slot_ne (Or.inl (hw _ (List.mem_of_getElem? (i := 50) rfl))) (Or.inl (hw _ (List.mem_of_getElem? (i := 43) rfl))) (by decide) (t := .long) (t' := .long) (by decide) (by decide)))
  obtain ⟨T7, X7, e7, st7⟩ := getF X4 hx hZ hown (host := "") (Or.inl (hw _ (List.mem_of_getElem? (i := 49) rfl))) Via.refl e4 F6 (g := (mkF m 12 #[.val (.ref o0), .val (.ref o1), .val (.ref o2), .val (.long y), .second, .val (.long z), .second] [(.ref o0), (.ref o0)])) rfl rfl (hb hby d10_12)
  refine OFin.go st7 ?_
  show OFin p e below _ (T7.setTop (mkF m 15 #[.val (.ref o0), .val (.ref o1), .val (.ref o2), .val (.long y), .second, .val (.long z), .second] [(.long x1), (.ref o0)]))
  have S8 : ∀ t, Steps p.tables e below (T7.setTop (mkF m 17 #[.val (.ref o0), .val (.ref o1), .val (.ref o2), .val (.long y), .second, .val (.long z), .second] [(.long (x1 + y)), (.ref o0)])) t → Steps p.tables e below (T7.setTop (mkF m 15 #[.val (.ref o0), .val (.ref o1), .val (.ref o2), .val (.long y), .second, .val (.long z), .second] [(.long x1), (.ref o0)])) t := by
    intro t k
    show Steps p.tables e below (T7.setTop (mkF m 15 #[.val (.ref o0), .val (.ref o1), .val (.ref o2), .val (.long y), .second, .val (.long z), .second] [(.long x1), (.ref o0)])) t
    refine XS.lloadN X7.here hx rfl (hb hby d10_15) rfl ?_
    show Steps p.tables e below (T7.setTop (mkF m 16 #[.val (.ref o0), .val (.ref o1), .val (.ref o2), .val (.long y), .second, .val (.long z), .second] [(.long y), (.long x1), (.ref o0)])) t
    refine XS.ladd X7.here hx rfl (hb hby d10_16) rfl ?_
    exact k
  refine OFin.go S8 ?_
  have F9 := E0.wr W4
  obtain ⟨T10, h10, X10, e10, W10, st10⟩ := putF X7 hx hZ hown (host := "") (Or.inl (hw _ (List.mem_of_getElem? (i := 49) rfl))) Via.refl e7 F6 F9 (Or.inl (hw _ (List.mem_of_getElem? (i := 50) rfl))) (hw _ (List.mem_of_getElem? (i := 31) rfl)) (ty := .long) (by decide) rfl rfl (g := (mkF m 17 #[.val (.ref o0), .val (.ref o1), .val (.ref o2), .val (.long y), .second, .val (.long z), .second] [(.long (x1 + y)), (.ref o0)])) rfl rfl (hb hby d10_17)
  have Fw10 := F6.same W10
  have N10 := Fr.snoc X10 N4 ge0
  have Z10 : n0 ≤ h10.size := Nat.le_trans Z4 (wr_le W10)
  have K10 := Keep.wr K4 W10 (Or.inl (List.mem_of_getElem? (i := 0) rfl))
  refine OFin.go st10 ?_
  show OFin p e below _ (T10.setTop (mkF m 20 #[.val (.ref o0), .val (.ref o1), .val (.ref o2), .val (.long y), .second, .val (.long z), .second] []))
  have F11 := Fw4.other W10 (Or.inr (slot_ne (Or.inl (hw _ (List.mem_of_getElem? (i := 43) rfl))) (Or.inl (hw _ (List.mem_of_getElem? (i := 50) rfl))) (by decide) (t := .long) (t' := .long) (by decide) (by decide)))
  exact finV X10 hx Bd.notSynchronized Bd.returns (hb hby d10_20) (by decide) (by decide) (by rw [e10]; exact ⟨rfl, N10, K10, F11, Fw10⟩)
theorem ef_rm0 (m : MethodId) (j0 : Int64) (j1 : Int64) (j2 : Int64) (j3 : Int64) (u4 : Int32) (u5 : Int32) : entryFrame m #[(.long j0), (.long j1), (.long j2), (.long j3), (.int u4), (.int u5)] maxLocals = mkF m 0 #[.val (.long j0), .second, .val (.long j1), .second, .val (.long j2), .second, .val (.long j3), .second, .val (.int u4), .val (.int u5), .unset, .unset, .unset, .unset, .unset, .unset, .unset, .unset] [] := by first | (simp [entryFrame, mkF, argsToLocals, Value.category, maxLocals]; done) | rfl
theorem pn_1 : plainName "com/example/tickwright/tickwright/io/ReplaySummaryFillPinLaw" = true := by first | (simp [plainName, overriddenIn]; done) | decide +kernel
def Q_rm0 (Z : State) (j0 : Int64) (j1 : Int64) (j2 : Int64) (j3 : Int64) (u4 : Int32) (u5 : Int32) (G1 : Int32) (h0 : Heap) (n0 : Nat) (v : Option Value) (h : Heap) (L : List Loc) : Prop := v = some (.int (1 : Int32)) ∧ Fr n0 L
theorem pd_0 : parseMethodDescriptor "([C)V" = some ⟨[(.array .char)], none⟩ := by decide +kernel
theorem pd_1 : parseMethodDescriptor "()V" = some ⟨[], none⟩ := by decide +kernel
theorem pd_2 : parseMethodDescriptor "()J" = some ⟨[], some .long⟩ := by decide +kernel
theorem pd_3 : parseMethodDescriptor "(Ljava/lang/String;Ljava/lang/String;JJ)V" = some ⟨[(.object "java/lang/String"), (.object "java/lang/String"), .long, .long], none⟩ := by decide +kernel
theorem own_l125 (j0 j1 j2 j3 : Int64)  : (((0 : Int64) + (1 : Int64)) = (1 : Int64)) := by
  grind
theorem own_l135 (j0 j1 j2 j3 : Int64)  : (((0 : Int64) + j0) = j0) := by
  grind
theorem own_l176 (j0 j1 j2 j3 : Int64)  : ((((0 : Int64) + (1 : Int64)) + (1 : Int64)) = (2 : Int64)) := by
  grind
theorem own_l187 (j0 j1 j2 j3 : Int64)  : ((((0 : Int64) + j0) + j1) = (j0 + j1)) := by
  grind
set_option maxRecDepth 65536 in
set_option maxHeartbeats 40000000 in
theorem rm0 (l : Launch) (Z : State) (a0 : Array Value) (hw : ∀ d ∈ tables_1, d.before a0 Z = true) (ws : List Jvm.Cond) (j0 : Int64) (j1 : Int64) (j2 : Int64) (j3 : Int64) (u4 : Int32) (u5 : Int32) (G1 : Int32) (h0 : Heap) (n0 : Nat) (Z0 : n0 ≤ h0.size) (SCS : Sta Z Z.heap "java/lang/String" "COMPACT_STRINGS" "Z" (.int G1)) (P3 : ¬ (G1 = (0 : Int32))) (X00 : Old Z n0 h0) :
    MetFree l x (head1 (Jvm.Cond.code x code maxLocals ret :: ws) room_1) (fun a U => a = #[(.long j0), (.long j1), (.long j2), (.long j3), (.int u4), (.int u5)] ∧ Z.Warmed39 U.vm ∧ U.heap = h0) (fun _ _ _ _ _ => True) (fun _ U o U' => ∃ v L, o = .returned v ∧ (Q_rm0 Z j0 j1 j2 j3 u4 u5 G1 h0 n0) v U'.heap L ∧ FrameEnd U o U' L 24 128) := by
  refine MetFree.of_bodySF (plainFor_of_name pn_1) hisR ?_
  intro p e s m args below meth c s₁ Bd hml0 hP hK
  obtain ⟨rfl, hZ, hh⟩ := hP
  have hx := Bd.exec
  have hby := Bd.bytes
  have hml : c.maxLocals = 18 := hml0
  have hown : s.vm.findClass "com/example/tickwright/tickwright/io/ReplaySummaryFillPinLaw" = some m.cls := findClass_of_methodNamed Bd.named
  have hnm := (name_of_methodNamed Bd.named Bd.method).1
  have X0 : Stand p l e room_1 s m #[(.long j0), (.long j1), (.long j2), (.long j3), (.int u4), (.int u5)] below meth c s₁ [] 0 0 := Stand.of_body Bd
  have e0 : s₁.heap = h0 := by rw [← hh, Bd.state]; rfl
  have N0 := Fr.nil n0
  show OFin p e below (ORet (Q_rm0 Z j0 j1 j2 j3 u4 u5 G1 h0 n0) s 24 128) (s₁.setTop (entryFrame m #[(.long j0), (.long j1), (.long j2), (.long j3), (.int u4), (.int u5)] maxLocals))
  refine OFin.go (fun t k => castTop (ef_rm0 m j0 j1 j2 j3 u4 u5) k) ?_
  have hws : ∀ d ∈ StrChars.Road.words, d.before a0 Z = true := fun d hd => hw d ((by decide +kernel : ∀ d ∈ StrChars.Road.words, d ∈ tables_1) d hd)
  show OFin p e below (ORet (Q_rm0 Z j0 j1 j2 j3 u4 u5 G1 h0 n0) s 24 128) (s₁.setTop (mkF m 0 #[.val (.long j0), .second, .val (.long j1), .second, .val (.long j2), .second, .val (.long j3), .second, .val (.int u4), .val (.int u5), .unset, .unset, .unset, .unset, .unset, .unset, .unset, .unset] []))
  have S1 : ∀ t, Steps p.tables e below (s₁.setTop (mkF m 1 #[.val (.long j0), .second, .val (.long j1), .second, .val (.long j2), .second, .val (.long j3), .second, .val (.int u4), .val (.int u5), .unset, .unset, .unset, .unset, .unset, .unset, .unset, .unset] [(.int (2 : Int32))])) t → Steps p.tables e below (s₁.setTop (mkF m 0 #[.val (.long j0), .second, .val (.long j1), .second, .val (.long j2), .second, .val (.long j3), .second, .val (.int u4), .val (.int u5), .unset, .unset, .unset, .unset, .unset, .unset, .unset, .unset] [])) t := by
    intro t k
    show Steps p.tables e below (s₁.setTop (mkF m 0 #[.val (.long j0), .second, .val (.long j1), .second, .val (.long j2), .second, .val (.long j3), .second, .val (.int u4), .val (.int u5), .unset, .unset, .unset, .unset, .unset, .unset, .unset, .unset] [])) t
    refine XS.iconst X0.here hx rfl (hb hby at_0) ?_
    exact k
  refine OFin.go S1 ?_
  obtain ⟨T2, h2, k2, X2, e2, E2, A2, st2⟩ := newP X0 hx hZ (hw _ (List.mem_of_getElem? (i := 0) rfl)) e0 (g := (mkF m 1 #[.val (.long j0), .second, .val (.long j1), .second, .val (.long j2), .second, .val (.long j3), .second, .val (.int u4), .val (.int u5), .unset, .unset, .unset, .unset, .unset, .unset, .unset, .unset] [(.int (2 : Int32))])) rfl (hb hby at_1) rfl (by decide) (cap := 2) (by decide) (by decide) (Nat.le_of_ble_eq_true rfl) (Nat.le_of_ble_eq_true rfl)
  obtain ⟨b2, g2⟩ : ∃ z, z = h0.size := ⟨_, rfl⟩
  rw [← g2] at A2 st2
  have ge2 : n0 ≤ b2 := Nat.le_trans Z0 (Nat.le_of_eq g2.symm)
  have Z2 : n0 ≤ h2.size := Nat.le_trans Z0 E2.1
  have O2 := Old.ext X00 E2
  have V2 : Ara Z h2 b2 .char 2 (fun _ => defaultValue .char) := Ara.new A2 rfl
  refine OFin.go st2 ?_
  show OFin p e below _ (T2.setTop (mkF m 3 #[.val (.long j0), .second, .val (.long j1), .second, .val (.long j2), .second, .val (.long j3), .second, .val (.int u4), .val (.int u5), .unset, .unset, .unset, .unset, .unset, .unset, .unset, .unset] [(.ref b2)]))
  have S3 : ∀ t, Steps p.tables e below (T2.setTop (mkF m 12 #[.val (.long j0), .second, .val (.long j1), .second, .val (.long j2), .second, .val (.long j3), .second, .val (.int u4), .val (.int u5), .unset, .unset, .unset, .unset, .unset, .unset, .unset, .unset] [(.int ((u4 &&& (255 : Int32)).toUInt32.toUInt16.toUInt32.toInt32)), (.int (0 : Int32)), (.ref b2), (.ref b2)])) t → Steps p.tables e below (T2.setTop (mkF m 3 #[.val (.long j0), .second, .val (.long j1), .second, .val (.long j2), .second, .val (.long j3), .second, .val (.int u4), .val (.int u5), .unset, .unset, .unset, .unset, .unset, .unset, .unset, .unset] [(.ref b2)])) t := by
    intro t k
    show Steps p.tables e below (T2.setTop (mkF m 3 #[.val (.long j0), .second, .val (.long j1), .second, .val (.long j2), .second, .val (.long j3), .second, .val (.int u4), .val (.int u5), .unset, .unset, .unset, .unset, .unset, .unset, .unset, .unset] [(.ref b2)])) t
    refine XS.dup X2.here hx rfl (hb hby at_3) rfl rfl ?_
    show Steps p.tables e below (T2.setTop (mkF m 4 #[.val (.long j0), .second, .val (.long j1), .second, .val (.long j2), .second, .val (.long j3), .second, .val (.int u4), .val (.int u5), .unset, .unset, .unset, .unset, .unset, .unset, .unset, .unset] [(.ref b2), (.ref b2)])) t
    refine XS.iconst X2.here hx rfl (hb hby at_4) ?_
    show Steps p.tables e below (T2.setTop (mkF m 5 #[.val (.long j0), .second, .val (.long j1), .second, .val (.long j2), .second, .val (.long j3), .second, .val (.int u4), .val (.int u5), .unset, .unset, .unset, .unset, .unset, .unset, .unset, .unset] [(.int (0 : Int32)), (.ref b2), (.ref b2)])) t
    refine XS.iload X2.here hx rfl (hb hby at_5) rfl ?_
    show Steps p.tables e below (T2.setTop (mkF m 7 #[.val (.long j0), .second, .val (.long j1), .second, .val (.long j2), .second, .val (.long j3), .second, .val (.int u4), .val (.int u5), .unset, .unset, .unset, .unset, .unset, .unset, .unset, .unset] [(.int u4), (.int (0 : Int32)), (.ref b2), (.ref b2)])) t
    refine XS.sipush X2.here hx rfl (hb hby at_7) ?_
    show Steps p.tables e below (T2.setTop (mkF m 10 #[.val (.long j0), .second, .val (.long j1), .second, .val (.long j2), .second, .val (.long j3), .second, .val (.int u4), .val (.int u5), .unset, .unset, .unset, .unset, .unset, .unset, .unset, .unset] [(.int (255 : Int32)), (.int u4), (.int (0 : Int32)), (.ref b2), (.ref b2)])) t
    refine XS.iand X2.here hx rfl (hb hby at_10) rfl ?_
    show Steps p.tables e below (T2.setTop (mkF m 11 #[.val (.long j0), .second, .val (.long j1), .second, .val (.long j2), .second, .val (.long j3), .second, .val (.int u4), .val (.int u5), .unset, .unset, .unset, .unset, .unset, .unset, .unset, .unset] [(.int (u4 &&& (255 : Int32))), (.int (0 : Int32)), (.ref b2), (.ref b2)])) t
    refine XS.i2c X2.here hx rfl (hb hby at_11) rfl ?_
    exact k
  refine OFin.go S3 ?_
  obtain ⟨T4, h4, X4, e4, W4, st4⟩ := wrC X2 hx hZ e2 V2 (i := 0) (by decide) rfl (by decide) (y' := (u4 &&& (255 : Int32))) (own_ch _) (g := (mkF m 12 #[.val (.long j0), .second, .val (.long j1), .second, .val (.long j2), .second, .val (.long j3), .second, .val (.int u4), .val (.int u5), .unset, .unset, .unset, .unset, .unset, .unset, .unset, .unset] [(.int ((u4 &&& (255 : Int32)).toUInt32.toUInt16.toUInt32.toInt32)), (.int (0 : Int32)), (.ref b2), (.ref b2)])) rfl rfl (hb hby at_12)
  have V4 := V2.set W4
  have N4 := Fr.snoc X4 N0 ge2
  have Z4 : n0 ≤ h4.size := Nat.le_trans Z2 (wr_le W4)
  have O4 := Old.wr O2 W4 ge2
  refine OFin.go st4 ?_
  show OFin p e below _ (T4.setTop (mkF m 13 #[.val (.long j0), .second, .val (.long j1), .second, .val (.long j2), .second, .val (.long j3), .second, .val (.int u4), .val (.int u5), .unset, .unset, .unset, .unset, .unset, .unset, .unset, .unset] [(.ref b2)]))
  have S5 : ∀ t, Steps p.tables e below (T4.setTop (mkF m 25 #[.val (.long j0), .second, .val (.long j1), .second, .val (.long j2), .second, .val (.long j3), .second, .val (.int u4), .val (.int u5), .unset, .unset, .unset, .unset, .unset, .unset, .unset, .unset] [(.int ((((u4.toUInt32 >>> ((8 : Int32) &&& 31).toUInt32).toInt32) &&& (255 : Int32)).toUInt32.toUInt16.toUInt32.toInt32)), (.int (1 : Int32)), (.ref b2), (.ref b2)])) t → Steps p.tables e below (T4.setTop (mkF m 13 #[.val (.long j0), .second, .val (.long j1), .second, .val (.long j2), .second, .val (.long j3), .second, .val (.int u4), .val (.int u5), .unset, .unset, .unset, .unset, .unset, .unset, .unset, .unset] [(.ref b2)])) t := by
    intro t k
    show Steps p.tables e below (T4.setTop (mkF m 13 #[.val (.long j0), .second, .val (.long j1), .second, .val (.long j2), .second, .val (.long j3), .second, .val (.int u4), .val (.int u5), .unset, .unset, .unset, .unset, .unset, .unset, .unset, .unset] [(.ref b2)])) t
    refine XS.dup X4.here hx rfl (hb hby at_13) rfl rfl ?_
    show Steps p.tables e below (T4.setTop (mkF m 14 #[.val (.long j0), .second, .val (.long j1), .second, .val (.long j2), .second, .val (.long j3), .second, .val (.int u4), .val (.int u5), .unset, .unset, .unset, .unset, .unset, .unset, .unset, .unset] [(.ref b2), (.ref b2)])) t
    refine XS.iconst X4.here hx rfl (hb hby at_14) ?_
    show Steps p.tables e below (T4.setTop (mkF m 15 #[.val (.long j0), .second, .val (.long j1), .second, .val (.long j2), .second, .val (.long j3), .second, .val (.int u4), .val (.int u5), .unset, .unset, .unset, .unset, .unset, .unset, .unset, .unset] [(.int (1 : Int32)), (.ref b2), (.ref b2)])) t
    refine XS.iload X4.here hx rfl (hb hby at_15) rfl ?_
    show Steps p.tables e below (T4.setTop (mkF m 17 #[.val (.long j0), .second, .val (.long j1), .second, .val (.long j2), .second, .val (.long j3), .second, .val (.int u4), .val (.int u5), .unset, .unset, .unset, .unset, .unset, .unset, .unset, .unset] [(.int u4), (.int (1 : Int32)), (.ref b2), (.ref b2)])) t
    refine XS.bipush X4.here hx rfl (hb hby at_17) ?_
    show Steps p.tables e below (T4.setTop (mkF m 19 #[.val (.long j0), .second, .val (.long j1), .second, .val (.long j2), .second, .val (.long j3), .second, .val (.int u4), .val (.int u5), .unset, .unset, .unset, .unset, .unset, .unset, .unset, .unset] [(.int (8 : Int32)), (.int u4), (.int (1 : Int32)), (.ref b2), (.ref b2)])) t
    refine XS.iushr X4.here hx rfl (hb hby at_19) rfl ?_
    show Steps p.tables e below (T4.setTop (mkF m 20 #[.val (.long j0), .second, .val (.long j1), .second, .val (.long j2), .second, .val (.long j3), .second, .val (.int u4), .val (.int u5), .unset, .unset, .unset, .unset, .unset, .unset, .unset, .unset] [(.int ((u4.toUInt32 >>> ((8 : Int32) &&& 31).toUInt32).toInt32)), (.int (1 : Int32)), (.ref b2), (.ref b2)])) t
    refine XS.sipush X4.here hx rfl (hb hby at_20) ?_
    show Steps p.tables e below (T4.setTop (mkF m 23 #[.val (.long j0), .second, .val (.long j1), .second, .val (.long j2), .second, .val (.long j3), .second, .val (.int u4), .val (.int u5), .unset, .unset, .unset, .unset, .unset, .unset, .unset, .unset] [(.int (255 : Int32)), (.int ((u4.toUInt32 >>> ((8 : Int32) &&& 31).toUInt32).toInt32)), (.int (1 : Int32)), (.ref b2), (.ref b2)])) t
    refine XS.iand X4.here hx rfl (hb hby at_23) rfl ?_
    show Steps p.tables e below (T4.setTop (mkF m 24 #[.val (.long j0), .second, .val (.long j1), .second, .val (.long j2), .second, .val (.long j3), .second, .val (.int u4), .val (.int u5), .unset, .unset, .unset, .unset, .unset, .unset, .unset, .unset] [(.int (((u4.toUInt32 >>> ((8 : Int32) &&& 31).toUInt32).toInt32) &&& (255 : Int32))), (.int (1 : Int32)), (.ref b2), (.ref b2)])) t
    refine XS.i2c X4.here hx rfl (hb hby at_24) rfl ?_
    exact k
  refine OFin.go S5 ?_
  obtain ⟨T6, h6, X6, e6, W6, st6⟩ := wrC X4 hx hZ e4 V4 (i := 1) (by decide) rfl (by decide) (y' := (((u4.toUInt32 >>> ((8 : Int32) &&& 31).toUInt32).toInt32) &&& (255 : Int32))) (own_ch _) (g := (mkF m 25 #[.val (.long j0), .second, .val (.long j1), .second, .val (.long j2), .second, .val (.long j3), .second, .val (.int u4), .val (.int u5), .unset, .unset, .unset, .unset, .unset, .unset, .unset, .unset] [(.int ((((u4.toUInt32 >>> ((8 : Int32) &&& 31).toUInt32).toInt32) &&& (255 : Int32)).toUInt32.toUInt16.toUInt32.toInt32)), (.int (1 : Int32)), (.ref b2), (.ref b2)])) rfl rfl (hb hby at_25)
  have V6 := V4.set W6
  have N6 := Fr.snoc X6 N4 ge2
  have Z6 : n0 ≤ h6.size := Nat.le_trans Z4 (wr_le W6)
  have O6 := Old.wr O4 W6 ge2
  refine OFin.go st6 ?_
  show OFin p e below _ (T6.setTop (mkF m 26 #[.val (.long j0), .second, .val (.long j1), .second, .val (.long j2), .second, .val (.long j3), .second, .val (.int u4), .val (.int u5), .unset, .unset, .unset, .unset, .unset, .unset, .unset, .unset] [(.ref b2)]))
  have S7 : ∀ t, Steps p.tables e below (T6.setTop (mkF m 29 #[.val (.long j0), .second, .val (.long j1), .second, .val (.long j2), .second, .val (.long j3), .second, .val (.int u4), .val (.int u5), .val (.ref b2), .unset, .unset, .unset, .unset, .unset, .unset, .unset] [(.int (1 : Int32))])) t → Steps p.tables e below (T6.setTop (mkF m 26 #[.val (.long j0), .second, .val (.long j1), .second, .val (.long j2), .second, .val (.long j3), .second, .val (.int u4), .val (.int u5), .unset, .unset, .unset, .unset, .unset, .unset, .unset, .unset] [(.ref b2)])) t := by
    intro t k
    show Steps p.tables e below (T6.setTop (mkF m 26 #[.val (.long j0), .second, .val (.long j1), .second, .val (.long j2), .second, .val (.long j3), .second, .val (.int u4), .val (.int u5), .unset, .unset, .unset, .unset, .unset, .unset, .unset, .unset] [(.ref b2)])) t
    refine XS.astore X6.here hx rfl (hb hby at_26) rfl rfl (l' := #[.val (.long j0), .second, .val (.long j1), .second, .val (.long j2), .second, .val (.long j3), .second, .val (.int u4), .val (.int u5), .val (.ref b2), .unset, .unset, .unset, .unset, .unset, .unset, .unset]) rfl ?_
    show Steps p.tables e below (T6.setTop (mkF m 28 #[.val (.long j0), .second, .val (.long j1), .second, .val (.long j2), .second, .val (.long j3), .second, .val (.int u4), .val (.int u5), .val (.ref b2), .unset, .unset, .unset, .unset, .unset, .unset, .unset] [])) t
    refine XS.iconst X6.here hx rfl (hb hby at_28) ?_
    exact k
  refine OFin.go S7 ?_
  obtain ⟨T8, h8, k8, X8, e8, E8, A8, st8⟩ := newP X6 hx hZ (hw _ (List.mem_of_getElem? (i := 0) rfl)) e6 (g := (mkF m 29 #[.val (.long j0), .second, .val (.long j1), .second, .val (.long j2), .second, .val (.long j3), .second, .val (.int u4), .val (.int u5), .val (.ref b2), .unset, .unset, .unset, .unset, .unset, .unset, .unset] [(.int (1 : Int32))])) rfl (hb hby at_29) rfl (by decide) (cap := 1) (by decide) (by decide) (Nat.le_of_ble_eq_true rfl) (Nat.le_of_ble_eq_true rfl)
  obtain ⟨b8, g8⟩ : ∃ z, z = h6.size := ⟨_, rfl⟩
  rw [← g8] at A8 st8
  have q9 : b2 ≠ b8 := up_lt V6.lt g8
  have ge8 : n0 ≤ b8 := Nat.le_trans Z6 (Nat.le_of_eq g8.symm)
  have Z8 : n0 ≤ h8.size := Nat.le_trans Z6 E8.1
  have O8 := Old.ext O6 E8
  have V8 : Ara Z h8 b8 .char 1 (fun _ => defaultValue .char) := Ara.new A8 rfl
  refine OFin.go st8 ?_
  show OFin p e below _ (T8.setTop (mkF m 31 #[.val (.long j0), .second, .val (.long j1), .second, .val (.long j2), .second, .val (.long j3), .second, .val (.int u4), .val (.int u5), .val (.ref b2), .unset, .unset, .unset, .unset, .unset, .unset, .unset] [(.ref b8)]))
  have S10 : ∀ t, Steps p.tables e below (T8.setTop (mkF m 40 #[.val (.long j0), .second, .val (.long j1), .second, .val (.long j2), .second, .val (.long j3), .second, .val (.int u4), .val (.int u5), .val (.ref b2), .unset, .unset, .unset, .unset, .unset, .unset, .unset] [(.int ((u5 &&& (255 : Int32)).toUInt32.toUInt16.toUInt32.toInt32)), (.int (0 : Int32)), (.ref b8), (.ref b8)])) t → Steps p.tables e below (T8.setTop (mkF m 31 #[.val (.long j0), .second, .val (.long j1), .second, .val (.long j2), .second, .val (.long j3), .second, .val (.int u4), .val (.int u5), .val (.ref b2), .unset, .unset, .unset, .unset, .unset, .unset, .unset] [(.ref b8)])) t := by
    intro t k
    show Steps p.tables e below (T8.setTop (mkF m 31 #[.val (.long j0), .second, .val (.long j1), .second, .val (.long j2), .second, .val (.long j3), .second, .val (.int u4), .val (.int u5), .val (.ref b2), .unset, .unset, .unset, .unset, .unset, .unset, .unset] [(.ref b8)])) t
    refine XS.dup X8.here hx rfl (hb hby at_31) rfl rfl ?_
    show Steps p.tables e below (T8.setTop (mkF m 32 #[.val (.long j0), .second, .val (.long j1), .second, .val (.long j2), .second, .val (.long j3), .second, .val (.int u4), .val (.int u5), .val (.ref b2), .unset, .unset, .unset, .unset, .unset, .unset, .unset] [(.ref b8), (.ref b8)])) t
    refine XS.iconst X8.here hx rfl (hb hby at_32) ?_
    show Steps p.tables e below (T8.setTop (mkF m 33 #[.val (.long j0), .second, .val (.long j1), .second, .val (.long j2), .second, .val (.long j3), .second, .val (.int u4), .val (.int u5), .val (.ref b2), .unset, .unset, .unset, .unset, .unset, .unset, .unset] [(.int (0 : Int32)), (.ref b8), (.ref b8)])) t
    refine XS.iload X8.here hx rfl (hb hby at_33) rfl ?_
    show Steps p.tables e below (T8.setTop (mkF m 35 #[.val (.long j0), .second, .val (.long j1), .second, .val (.long j2), .second, .val (.long j3), .second, .val (.int u4), .val (.int u5), .val (.ref b2), .unset, .unset, .unset, .unset, .unset, .unset, .unset] [(.int u5), (.int (0 : Int32)), (.ref b8), (.ref b8)])) t
    refine XS.sipush X8.here hx rfl (hb hby at_35) ?_
    show Steps p.tables e below (T8.setTop (mkF m 38 #[.val (.long j0), .second, .val (.long j1), .second, .val (.long j2), .second, .val (.long j3), .second, .val (.int u4), .val (.int u5), .val (.ref b2), .unset, .unset, .unset, .unset, .unset, .unset, .unset] [(.int (255 : Int32)), (.int u5), (.int (0 : Int32)), (.ref b8), (.ref b8)])) t
    refine XS.iand X8.here hx rfl (hb hby at_38) rfl ?_
    show Steps p.tables e below (T8.setTop (mkF m 39 #[.val (.long j0), .second, .val (.long j1), .second, .val (.long j2), .second, .val (.long j3), .second, .val (.int u4), .val (.int u5), .val (.ref b2), .unset, .unset, .unset, .unset, .unset, .unset, .unset] [(.int (u5 &&& (255 : Int32))), (.int (0 : Int32)), (.ref b8), (.ref b8)])) t
    refine XS.i2c X8.here hx rfl (hb hby at_39) rfl ?_
    exact k
  refine OFin.go S10 ?_
  obtain ⟨T11, h11, X11, e11, W11, st11⟩ := wrC X8 hx hZ e8 V8 (i := 0) (by decide) rfl (by decide) (y' := (u5 &&& (255 : Int32))) (own_ch _) (g := (mkF m 40 #[.val (.long j0), .second, .val (.long j1), .second, .val (.long j2), .second, .val (.long j3), .second, .val (.int u4), .val (.int u5), .val (.ref b2), .unset, .unset, .unset, .unset, .unset, .unset, .unset] [(.int ((u5 &&& (255 : Int32)).toUInt32.toUInt16.toUInt32.toInt32)), (.int (0 : Int32)), (.ref b8), (.ref b8)])) rfl rfl (hb hby at_40)
  have V11 := V8.set W11
  have N11 := Fr.snoc X11 N6 ge8
  have Z11 : n0 ≤ h11.size := Nat.le_trans Z8 (wr_le W11)
  have O11 := Old.wr O8 W11 ge8
  refine OFin.go st11 ?_
  show OFin p e below _ (T11.setTop (mkF m 41 #[.val (.long j0), .second, .val (.long j1), .second, .val (.long j2), .second, .val (.long j3), .second, .val (.int u4), .val (.int u5), .val (.ref b2), .unset, .unset, .unset, .unset, .unset, .unset, .unset] [(.ref b8)]))
  have S12 : ∀ t, Steps p.tables e below (T11.setTop (mkF m 43 #[.val (.long j0), .second, .val (.long j1), .second, .val (.long j2), .second, .val (.long j3), .second, .val (.int u4), .val (.int u5), .val (.ref b2), .val (.ref b8), .unset, .unset, .unset, .unset, .unset, .unset] [])) t → Steps p.tables e below (T11.setTop (mkF m 41 #[.val (.long j0), .second, .val (.long j1), .second, .val (.long j2), .second, .val (.long j3), .second, .val (.int u4), .val (.int u5), .val (.ref b2), .unset, .unset, .unset, .unset, .unset, .unset, .unset] [(.ref b8)])) t := by
    intro t k
    show Steps p.tables e below (T11.setTop (mkF m 41 #[.val (.long j0), .second, .val (.long j1), .second, .val (.long j2), .second, .val (.long j3), .second, .val (.int u4), .val (.int u5), .val (.ref b2), .unset, .unset, .unset, .unset, .unset, .unset, .unset] [(.ref b8)])) t
    refine XS.astore X11.here hx rfl (hb hby at_41) rfl rfl (l' := #[.val (.long j0), .second, .val (.long j1), .second, .val (.long j2), .second, .val (.long j3), .second, .val (.int u4), .val (.int u5), .val (.ref b2), .val (.ref b8), .unset, .unset, .unset, .unset, .unset, .unset]) rfl ?_
    exact k
  refine OFin.go S12 ?_
  obtain ⟨T13, h13, X13, e13, E13, A13, D13, -, st13⟩ := newO X11 hx hZ hown (hw _ (List.mem_of_getElem? (i := 1) rfl)) (hw _ (List.mem_of_getElem? (i := 2) rfl)) (hw _ (List.mem_of_getElem? (i := 3) rfl)) e11 (g := (mkF m 43 #[.val (.long j0), .second, .val (.long j1), .second, .val (.long j2), .second, .val (.long j3), .second, .val (.int u4), .val (.int u5), .val (.ref b2), .val (.ref b8), .unset, .unset, .unset, .unset, .unset, .unset] [])) rfl (hb hby at_43) (Nat.le_of_ble_eq_true rfl) (Nat.le_of_ble_eq_true rfl)
  obtain ⟨b13, g13⟩ : ∃ z, z = h11.size := ⟨_, rfl⟩
  rw [← g13] at A13 D13 st13
  have F14 := V6.ext E8
  have F15 := F14.other W11 q9
  have q16 : b2 ≠ b13 := up_lt F15.lt g13
  have q17 : b8 ≠ b13 := up_lt V11.lt g13
  have ge13 : n0 ≤ b13 := Nat.le_trans Z11 (Nat.le_of_eq g13.symm)
  have Z13 : n0 ≤ h13.size := Nat.le_trans Z11 E13.1
  have O13 := Old.ext O11 E13
  have F13_coder : Fld Z h13 b13 "java/lang/String" "coder" "B" (.int (0 : Int32)) := D13 (Or.inr (hw _ (List.mem_of_getElem? (i := 27) rfl))) (ty := .byte) (by decide)
  have F13_value : Fld Z h13 b13 "java/lang/String" "value" "[B" .null := D13 (Or.inr (hw _ (List.mem_of_getElem? (i := 29) rfl))) (ty := (.array .byte)) (by decide)
  refine OFin.go st13 ?_
  show OFin p e below _ (T13.setTop (mkF m 46 #[.val (.long j0), .second, .val (.long j1), .second, .val (.long j2), .second, .val (.long j3), .second, .val (.int u4), .val (.int u5), .val (.ref b2), .val (.ref b8), .unset, .unset, .unset, .unset, .unset, .unset] [(.ref b13)]))
  have S18 : ∀ t, Steps p.tables e below (T13.setTop (mkF m 49 #[.val (.long j0), .second, .val (.long j1), .second, .val (.long j2), .second, .val (.long j3), .second, .val (.int u4), .val (.int u5), .val (.ref b2), .val (.ref b8), .unset, .unset, .unset, .unset, .unset, .unset] [(.ref b2), (.ref b13), (.ref b13)])) t → Steps p.tables e below (T13.setTop (mkF m 46 #[.val (.long j0), .second, .val (.long j1), .second, .val (.long j2), .second, .val (.long j3), .second, .val (.int u4), .val (.int u5), .val (.ref b2), .val (.ref b8), .unset, .unset, .unset, .unset, .unset, .unset] [(.ref b13)])) t := by
    intro t k
    show Steps p.tables e below (T13.setTop (mkF m 46 #[.val (.long j0), .second, .val (.long j1), .second, .val (.long j2), .second, .val (.long j3), .second, .val (.int u4), .val (.int u5), .val (.ref b2), .val (.ref b8), .unset, .unset, .unset, .unset, .unset, .unset] [(.ref b13)])) t
    refine XS.dup X13.here hx rfl (hb hby at_46) rfl rfl ?_
    show Steps p.tables e below (T13.setTop (mkF m 47 #[.val (.long j0), .second, .val (.long j1), .second, .val (.long j2), .second, .val (.long j3), .second, .val (.int u4), .val (.int u5), .val (.ref b2), .val (.ref b8), .unset, .unset, .unset, .unset, .unset, .unset] [(.ref b13), (.ref b13)])) t
    refine XS.aload X13.here hx rfl (hb hby at_47) rfl rfl ?_
    exact k
  refine OFin.go S18 ?_
  have F20 := F15.ext E13
  have hl19 : ∀ c ∈ ([(u4 &&& (255 : Int32)), (((u4.toUInt32 >>> ((8 : Int32) &&& 31).toUInt32).toInt32) &&& (255 : Int32))] : List Int32), ¬ c < 0 ∧ ¬ (255 : Int32) < c := by
    intro c hc
    simp only [List.mem_cons, List.not_mem_nil, or_false] at hc
    rcases hc with rfl | rfl <;> exact own_lat _
  obtain ⟨kC19, VC19⟩ := F20.arv (N := (2 : Int32)) (vs := ([(u4 &&& (255 : Int32)), (((u4.toUInt32 >>> ((8 : Int32) &&& 31).toUInt32).toInt32) &&& (255 : Int32))] : List Int32).map Value.int) (d := .int 0) rfl (by decide) (fun i hi => by match i, hi with | 0, _ => rfl | 1, _ => rfl) (fun i hi => by match i, hi with | 0, _ => exact own_fitc _ | 1, _ => exact own_fitc _)
  obtain ⟨_, _, ⟨T19, L19, k19, n19⟩, -, X19, ⟨Lc19, hQ19, l19, y19, z19⟩, st19⟩ := X13.specialBack hx (y := (⟨"java/lang/String", "<init>", "([C)V"⟩ : MethodName)) rfl hown (mvT hZ (hw _ (List.mem_of_getElem? (i := 4) rfl))) (mvT hZ (hw _ (List.mem_of_getElem? (i := 5) rfl))) (mvT hZ (hw _ (List.mem_of_getElem? (i := 6) rfl))) (by decide) (StrChars.Road.backV (W := 1) hZ hws (kI := 4) (hw _ (List.mem_of_getElem? (i := 2) rfl)) (cs := [(u4 &&& (255 : Int32)), (((u4.toUInt32 >>> ((8 : Int32) &&& 31).toUInt32).toInt32) &&& (255 : Int32))]) (bs := ([(u4 &&& (255 : Int32)), (((u4.toUInt32 >>> ((8 : Int32) &&& 31).toUInt32).toInt32) &&& (255 : Int32))] : List Int32).map (fun c => c.toInt8.toInt32)) (n := 2) ge13 Z13 A13 F13_value F13_coder VC19 (SCS.ext O13.2) P3 rfl rfl (by decide) (by decide) hl19 rfl (by decide) (by decide)) (g := (mkF m 49 #[.val (.long j0), .second, .val (.long j1), .second, .val (.long j2), .second, .val (.long j3), .second, .val (.int u4), .val (.int u5), .val (.ref b2), .val (.ref b8), .unset, .unset, .unset, .unset, .unset, .unset] [(.ref b2), (.ref b13), (.ref b13)])) rfl (by rw [hml]; rfl) (Steps.refl _) (a := b13) (argsL := [(.ref b2)]) (rest := [(.ref b13)]) (lenOf pd_0 rfl) rfl (by show 2 * 0 + _ ≤ _; exact Nat.le_of_eq rfl) (hb hby at_49) (fun _ _ => ⟨rfl, e13, (Nat.le_of_ble_eq_true rfl), (Nat.le_of_ble_eq_true rfl)⟩)
  dsimp only [Pt.U, Pt.locs, Pt.cells, Pt.slots] at X19 l19 y19 z19 st19 hQ19
  subst l19 y19 z19
  obtain ⟨rfl, N19q, K19q, -⟩ := hQ19
  have Z19 : n0 ≤ T19.heap.size := Nat.le_trans Z13 K19q.1
  have O19 := Old.keep O13 K19q (allS ge13 all0)
  have N19 := Fr.app N11 N19q
  refine OFin.tr st19 ?_
  show OFin p e below _ (T19.setTop (mkF m 52 #[.val (.long j0), .second, .val (.long j1), .second, .val (.long j2), .second, .val (.long j3), .second, .val (.int u4), .val (.int u5), .val (.ref b2), .val (.ref b8), .unset, .unset, .unset, .unset, .unset, .unset] [(.ref b13)]))
  have S21 : ∀ t, Steps p.tables e below (T19.setTop (mkF m 54 #[.val (.long j0), .second, .val (.long j1), .second, .val (.long j2), .second, .val (.long j3), .second, .val (.int u4), .val (.int u5), .val (.ref b2), .val (.ref b8), .val (.ref b13), .unset, .unset, .unset, .unset, .unset] [])) t → Steps p.tables e below (T19.setTop (mkF m 52 #[.val (.long j0), .second, .val (.long j1), .second, .val (.long j2), .second, .val (.long j3), .second, .val (.int u4), .val (.int u5), .val (.ref b2), .val (.ref b8), .unset, .unset, .unset, .unset, .unset, .unset] [(.ref b13)])) t := by
    intro t k
    show Steps p.tables e below (T19.setTop (mkF m 52 #[.val (.long j0), .second, .val (.long j1), .second, .val (.long j2), .second, .val (.long j3), .second, .val (.int u4), .val (.int u5), .val (.ref b2), .val (.ref b8), .unset, .unset, .unset, .unset, .unset, .unset] [(.ref b13)])) t
    refine XS.astore X19.here hx rfl (hb hby at_52) rfl rfl (l' := #[.val (.long j0), .second, .val (.long j1), .second, .val (.long j2), .second, .val (.long j3), .second, .val (.int u4), .val (.int u5), .val (.ref b2), .val (.ref b8), .val (.ref b13), .unset, .unset, .unset, .unset, .unset]) rfl ?_
    exact k
  refine OFin.go S21 ?_
  obtain ⟨T22, h22, X22, e22, E22, A22, D22, -, st22⟩ := newO X19 hx hZ hown (hw _ (List.mem_of_getElem? (i := 1) rfl)) (hw _ (List.mem_of_getElem? (i := 2) rfl)) (hw _ (List.mem_of_getElem? (i := 3) rfl)) rfl (g := (mkF m 54 #[.val (.long j0), .second, .val (.long j1), .second, .val (.long j2), .second, .val (.long j3), .second, .val (.int u4), .val (.int u5), .val (.ref b2), .val (.ref b8), .val (.ref b13), .unset, .unset, .unset, .unset, .unset] [])) rfl (hb hby at_54) (Nat.le_of_ble_eq_true rfl) (Nat.le_of_ble_eq_true rfl)
  obtain ⟨b22, g22⟩ : ∃ z, z = T19.heap.size := ⟨_, rfl⟩
  rw [← g22] at A22 D22 st22
  have F23 := F20.keep K19q (ninS q16 nin0)
  have q24 : b2 ≠ b22 := up_lt F23.lt g22
  have F25 := V11.ext E13
  have F26 := F25.keep K19q (ninS q17 nin0)
  have q27 : b8 ≠ b22 := up_lt F26.lt g22
  have F28 := A13.keep K19q
  have q29 : b13 ≠ b22 := up_lt F28.lt g22
  have ge22 : n0 ≤ b22 := Nat.le_trans Z19 (Nat.le_of_eq g22.symm)
  have Z22 : n0 ≤ h22.size := Nat.le_trans Z19 E22.1
  have O22 := Old.ext O19 E22
  have F22_coder : Fld Z h22 b22 "java/lang/String" "coder" "B" (.int (0 : Int32)) := D22 (Or.inr (hw _ (List.mem_of_getElem? (i := 27) rfl))) (ty := .byte) (by decide)
  have F22_value : Fld Z h22 b22 "java/lang/String" "value" "[B" .null := D22 (Or.inr (hw _ (List.mem_of_getElem? (i := 29) rfl))) (ty := (.array .byte)) (by decide)
  refine OFin.go st22 ?_
  show OFin p e below _ (T22.setTop (mkF m 57 #[.val (.long j0), .second, .val (.long j1), .second, .val (.long j2), .second, .val (.long j3), .second, .val (.int u4), .val (.int u5), .val (.ref b2), .val (.ref b8), .val (.ref b13), .unset, .unset, .unset, .unset, .unset] [(.ref b22)]))
  have S30 : ∀ t, Steps p.tables e below (T22.setTop (mkF m 60 #[.val (.long j0), .second, .val (.long j1), .second, .val (.long j2), .second, .val (.long j3), .second, .val (.int u4), .val (.int u5), .val (.ref b2), .val (.ref b8), .val (.ref b13), .unset, .unset, .unset, .unset, .unset] [(.ref b8), (.ref b22), (.ref b22)])) t → Steps p.tables e below (T22.setTop (mkF m 57 #[.val (.long j0), .second, .val (.long j1), .second, .val (.long j2), .second, .val (.long j3), .second, .val (.int u4), .val (.int u5), .val (.ref b2), .val (.ref b8), .val (.ref b13), .unset, .unset, .unset, .unset, .unset] [(.ref b22)])) t := by
    intro t k
    show Steps p.tables e below (T22.setTop (mkF m 57 #[.val (.long j0), .second, .val (.long j1), .second, .val (.long j2), .second, .val (.long j3), .second, .val (.int u4), .val (.int u5), .val (.ref b2), .val (.ref b8), .val (.ref b13), .unset, .unset, .unset, .unset, .unset] [(.ref b22)])) t
    refine XS.dup X22.here hx rfl (hb hby at_57) rfl rfl ?_
    show Steps p.tables e below (T22.setTop (mkF m 58 #[.val (.long j0), .second, .val (.long j1), .second, .val (.long j2), .second, .val (.long j3), .second, .val (.int u4), .val (.int u5), .val (.ref b2), .val (.ref b8), .val (.ref b13), .unset, .unset, .unset, .unset, .unset] [(.ref b22), (.ref b22)])) t
    refine XS.aload X22.here hx rfl (hb hby at_58) rfl rfl ?_
    exact k
  refine OFin.go S30 ?_
  have F32 := F26.ext E22
  have hl31 : ∀ c ∈ ([(u5 &&& (255 : Int32))] : List Int32), ¬ c < 0 ∧ ¬ (255 : Int32) < c := by
    intro c hc
    simp only [List.mem_cons, List.not_mem_nil, or_false] at hc
    rcases hc with rfl <;> exact own_lat _
  obtain ⟨kC31, VC31⟩ := F32.arv (N := (1 : Int32)) (vs := ([(u5 &&& (255 : Int32))] : List Int32).map Value.int) (d := .int 0) rfl (by decide) (fun i hi => by match i, hi with | 0, _ => rfl) (fun i hi => by match i, hi with | 0, _ => exact own_fitc _)
  obtain ⟨_, _, ⟨T31, L31, k31, n31⟩, -, X31, ⟨Lc31, hQ31, l31, y31, z31⟩, st31⟩ := X22.specialBack hx (y := (⟨"java/lang/String", "<init>", "([C)V"⟩ : MethodName)) rfl hown (mvT hZ (hw _ (List.mem_of_getElem? (i := 4) rfl))) (mvT hZ (hw _ (List.mem_of_getElem? (i := 5) rfl))) (mvT hZ (hw _ (List.mem_of_getElem? (i := 6) rfl))) (by decide) (StrChars.Road.backV (W := 1) hZ hws (kI := 4) (hw _ (List.mem_of_getElem? (i := 2) rfl)) (cs := [(u5 &&& (255 : Int32))]) (bs := ([(u5 &&& (255 : Int32))] : List Int32).map (fun c => c.toInt8.toInt32)) (n := 1) ge22 Z22 A22 F22_value F22_coder VC31 (SCS.ext O22.2) P3 rfl rfl (by decide) (by decide) hl31 rfl (by decide) (by decide)) (g := (mkF m 60 #[.val (.long j0), .second, .val (.long j1), .second, .val (.long j2), .second, .val (.long j3), .second, .val (.int u4), .val (.int u5), .val (.ref b2), .val (.ref b8), .val (.ref b13), .unset, .unset, .unset, .unset, .unset] [(.ref b8), (.ref b22), (.ref b22)])) rfl (by rw [hml]; rfl) (Steps.refl _) (a := b22) (argsL := [(.ref b8)]) (rest := [(.ref b22)]) (lenOf pd_0 rfl) rfl (by show 2 * 0 + _ ≤ _; exact Nat.le_of_eq rfl) (hb hby at_60) (fun _ _ => ⟨rfl, e22, (Nat.le_of_ble_eq_true rfl), (Nat.le_of_ble_eq_true rfl)⟩)
  dsimp only [Pt.U, Pt.locs, Pt.cells, Pt.slots] at X31 l31 y31 z31 st31 hQ31
  subst l31 y31 z31
  obtain ⟨rfl, N31q, K31q, -⟩ := hQ31
  have Z31 : n0 ≤ T31.heap.size := Nat.le_trans Z22 K31q.1
  have O31 := Old.keep O22 K31q (allS ge22 all0)
  have N31 := Fr.app N19 N31q
  refine OFin.tr st31 ?_
  show OFin p e below _ (T31.setTop (mkF m 63 #[.val (.long j0), .second, .val (.long j1), .second, .val (.long j2), .second, .val (.long j3), .second, .val (.int u4), .val (.int u5), .val (.ref b2), .val (.ref b8), .val (.ref b13), .unset, .unset, .unset, .unset, .unset] [(.ref b22)]))
  have S33 : ∀ t, Steps p.tables e below (T31.setTop (mkF m 65 #[.val (.long j0), .second, .val (.long j1), .second, .val (.long j2), .second, .val (.long j3), .second, .val (.int u4), .val (.int u5), .val (.ref b2), .val (.ref b8), .val (.ref b13), .val (.ref b22), .unset, .unset, .unset, .unset] [])) t → Steps p.tables e below (T31.setTop (mkF m 63 #[.val (.long j0), .second, .val (.long j1), .second, .val (.long j2), .second, .val (.long j3), .second, .val (.int u4), .val (.int u5), .val (.ref b2), .val (.ref b8), .val (.ref b13), .unset, .unset, .unset, .unset, .unset] [(.ref b22)])) t := by
    intro t k
    show Steps p.tables e below (T31.setTop (mkF m 63 #[.val (.long j0), .second, .val (.long j1), .second, .val (.long j2), .second, .val (.long j3), .second, .val (.int u4), .val (.int u5), .val (.ref b2), .val (.ref b8), .val (.ref b13), .unset, .unset, .unset, .unset, .unset] [(.ref b22)])) t
    refine XS.astore X31.here hx rfl (hb hby at_63) rfl rfl (l' := #[.val (.long j0), .second, .val (.long j1), .second, .val (.long j2), .second, .val (.long j3), .second, .val (.int u4), .val (.int u5), .val (.ref b2), .val (.ref b8), .val (.ref b13), .val (.ref b22), .unset, .unset, .unset, .unset]) rfl ?_
    exact k
  refine OFin.go S33 ?_
  obtain ⟨T34, h34, X34, e34, E34, A34, D34, -, st34⟩ := newO X31 hx hZ hown (hw _ (List.mem_of_getElem? (i := 30) rfl)) (hw _ (List.mem_of_getElem? (i := 31) rfl)) (hw _ (List.mem_of_getElem? (i := 32) rfl)) rfl (g := (mkF m 65 #[.val (.long j0), .second, .val (.long j1), .second, .val (.long j2), .second, .val (.long j3), .second, .val (.int u4), .val (.int u5), .val (.ref b2), .val (.ref b8), .val (.ref b13), .val (.ref b22), .unset, .unset, .unset, .unset] [])) rfl (hb hby at_65) (Nat.le_of_ble_eq_true rfl) (Nat.le_of_ble_eq_true rfl)
  obtain ⟨b34, g34⟩ : ∃ z, z = T31.heap.size := ⟨_, rfl⟩
  rw [← g34] at A34 D34 st34
  have F35 := F23.ext E22
  have F36 := F35.keep K31q (ninS q24 nin0)
  have q37 : b2 ≠ b34 := up_lt F36.lt g34
  have F38 := F32.keep K31q (ninS q27 nin0)
  have q39 : b8 ≠ b34 := up_lt F38.lt g34
  have F40 := F28.ext E22
  have F41 := F40.keep K31q
  have q42 : b13 ≠ b34 := up_lt F41.lt g34
  have F43 := A22.keep K31q
  have q44 : b22 ≠ b34 := up_lt F43.lt g34
  have ge34 : n0 ≤ b34 := Nat.le_trans Z31 (Nat.le_of_eq g34.symm)
  have Z34 : n0 ≤ h34.size := Nat.le_trans Z31 E34.1
  have O34 := Old.ext O31 E34
  have F34_fills : Fld Z h34 b34 "com/example/tickwright/tickwright/io/ReplaySummary" "fills" "J" (.long (0 : Int64)) := D34 (Or.inl (hw _ (List.mem_of_getElem? (i := 43) rfl))) (ty := .long) (by decide)
  have F34_filledShares : Fld Z h34 b34 "com/example/tickwright/tickwright/io/ReplaySummary" "filledShares" "J" (.long (0 : Int64)) := D34 (Or.inl (hw _ (List.mem_of_getElem? (i := 50) rfl))) (ty := .long) (by decide)
  refine OFin.go st34 ?_
  show OFin p e below _ (T34.setTop (mkF m 68 #[.val (.long j0), .second, .val (.long j1), .second, .val (.long j2), .second, .val (.long j3), .second, .val (.int u4), .val (.int u5), .val (.ref b2), .val (.ref b8), .val (.ref b13), .val (.ref b22), .unset, .unset, .unset, .unset] [(.ref b34)]))
  have S45 : ∀ t, Steps p.tables e below (T34.setTop (mkF m 69 #[.val (.long j0), .second, .val (.long j1), .second, .val (.long j2), .second, .val (.long j3), .second, .val (.int u4), .val (.int u5), .val (.ref b2), .val (.ref b8), .val (.ref b13), .val (.ref b22), .unset, .unset, .unset, .unset] [(.ref b34), (.ref b34)])) t → Steps p.tables e below (T34.setTop (mkF m 68 #[.val (.long j0), .second, .val (.long j1), .second, .val (.long j2), .second, .val (.long j3), .second, .val (.int u4), .val (.int u5), .val (.ref b2), .val (.ref b8), .val (.ref b13), .val (.ref b22), .unset, .unset, .unset, .unset] [(.ref b34)])) t := by
    intro t k
    show Steps p.tables e below (T34.setTop (mkF m 68 #[.val (.long j0), .second, .val (.long j1), .second, .val (.long j2), .second, .val (.long j3), .second, .val (.int u4), .val (.int u5), .val (.ref b2), .val (.ref b8), .val (.ref b13), .val (.ref b22), .unset, .unset, .unset, .unset] [(.ref b34)])) t
    refine XS.dup X34.here hx rfl (hb hby at_68) rfl rfl ?_
    exact k
  refine OFin.go S45 ?_
  obtain ⟨_, T46, Lc46, X46, hQ46, st46⟩ := specQ X34 hx hZ (y := (⟨"com/example/tickwright/tickwright/io/ReplaySummary", "<init>", "()V"⟩ : MethodName)) rfl hown (hw _ (List.mem_of_getElem? (i := 33) rfl)) (hw _ (List.mem_of_getElem? (i := 34) rfl)) (hw _ (List.mem_of_getElem? (i := 32) rfl)) (hw _ (List.mem_of_getElem? (i := 35) rfl)) (by decide) (a := b34) (argsL := []) (rest := [(.ref b34)]) (rm7 l Z a0 hw [] b34 h34 n0 Z34) (W := 1) (by decide) (by decide) e34 (g := (mkF m 69 #[.val (.long j0), .second, .val (.long j1), .second, .val (.long j2), .second, .val (.long j3), .second, .val (.int u4), .val (.int u5), .val (.ref b2), .val (.ref b8), .val (.ref b13), .val (.ref b22), .unset, .unset, .unset, .unset] [(.ref b34), (.ref b34)])) rfl (by rw [hml]; rfl) (lenOf pd_1 rfl) rfl (by show 2 * 0 + _ ≤ _; exact Nat.le_of_eq rfl) (hb hby at_69) (Nat.le_of_ble_eq_true rfl) (Nat.le_of_ble_eq_true rfl)
  obtain ⟨rfl, N46q, e46⟩ := hQ46
  have N46 := Fr.app N31 N46q
  refine OFin.go st46 ?_
  show OFin p e below _ (T46.setTop (mkF m 72 #[.val (.long j0), .second, .val (.long j1), .second, .val (.long j2), .second, .val (.long j3), .second, .val (.int u4), .val (.int u5), .val (.ref b2), .val (.ref b8), .val (.ref b13), .val (.ref b22), .unset, .unset, .unset, .unset] [(.ref b34)]))
  have S47 : ∀ t, Steps p.tables e below (T46.setTop (mkF m 76 #[.val (.long j0), .second, .val (.long j1), .second, .val (.long j2), .second, .val (.long j3), .second, .val (.int u4), .val (.int u5), .val (.ref b2), .val (.ref b8), .val (.ref b13), .val (.ref b22), .val (.ref b34), .unset, .unset, .unset] [(.ref b34)])) t → Steps p.tables e below (T46.setTop (mkF m 72 #[.val (.long j0), .second, .val (.long j1), .second, .val (.long j2), .second, .val (.long j3), .second, .val (.int u4), .val (.int u5), .val (.ref b2), .val (.ref b8), .val (.ref b13), .val (.ref b22), .unset, .unset, .unset, .unset] [(.ref b34)])) t := by
    intro t k
    show Steps p.tables e below (T46.setTop (mkF m 72 #[.val (.long j0), .second, .val (.long j1), .second, .val (.long j2), .second, .val (.long j3), .second, .val (.int u4), .val (.int u5), .val (.ref b2), .val (.ref b8), .val (.ref b13), .val (.ref b22), .unset, .unset, .unset, .unset] [(.ref b34)])) t
    refine XS.astore X46.here hx rfl (hb hby at_72) rfl rfl (l' := #[.val (.long j0), .second, .val (.long j1), .second, .val (.long j2), .second, .val (.long j3), .second, .val (.int u4), .val (.int u5), .val (.ref b2), .val (.ref b8), .val (.ref b13), .val (.ref b22), .val (.ref b34), .unset, .unset, .unset]) rfl ?_
    show Steps p.tables e below (T46.setTop (mkF m 74 #[.val (.long j0), .second, .val (.long j1), .second, .val (.long j2), .second, .val (.long j3), .second, .val (.int u4), .val (.int u5), .val (.ref b2), .val (.ref b8), .val (.ref b13), .val (.ref b22), .val (.ref b34), .unset, .unset, .unset] [])) t
    refine XS.aload X46.here hx rfl (hb hby at_74) rfl rfl ?_
    exact k
  refine OFin.go S47 ?_
  obtain ⟨_, T48, Lc48, X48, hQ48, st48⟩ := virtQ X46 hx hZ (y := (⟨"com/example/tickwright/tickwright/io/ReplaySummary", "fills", "()J"⟩ : MethodName)) hown (hw _ (List.mem_of_getElem? (i := 37) rfl)) (hw _ (List.mem_of_getElem? (i := 39) rfl)) (hw _ (List.mem_of_getElem? (i := 32) rfl)) (hw _ (List.mem_of_getElem? (i := 41) rfl)) (hw _ (List.mem_of_getElem? (i := 38) rfl)) (hw _ (List.mem_of_getElem? (i := 40) rfl)) (by decide) A34 (argsL := []) (rest := []) (rm8 l Z a0 hw [] b34 (0 : Int64) h34 n0 Z34 F34_fills) (W := 0) (by decide) (by decide) e46 (g := (mkF m 76 #[.val (.long j0), .second, .val (.long j1), .second, .val (.long j2), .second, .val (.long j3), .second, .val (.int u4), .val (.int u5), .val (.ref b2), .val (.ref b8), .val (.ref b13), .val (.ref b22), .val (.ref b34), .unset, .unset, .unset] [(.ref b34)])) rfl (by rw [hml]; rfl) (lenOf pd_2 rfl) rfl (by show 2 * 0 + _ ≤ _; exact Nat.le_of_eq rfl) (hb hby at_76) (Nat.le_of_ble_eq_true rfl) (Nat.le_of_ble_eq_true rfl)
  obtain ⟨rfl, N48q, e48⟩ := hQ48
  have N48 := Fr.app N46 N48q
  refine OFin.go st48 ?_
  show OFin p e below _ (T48.setTop (mkF m 79 #[.val (.long j0), .second, .val (.long j1), .second, .val (.long j2), .second, .val (.long j3), .second, .val (.int u4), .val (.int u5), .val (.ref b2), .val (.ref b8), .val (.ref b13), .val (.ref b22), .val (.ref b34), .unset, .unset, .unset] [(.long (0 : Int64))]))
  have S49 : ∀ t, Steps p.tables e below (T48.setTop (mkF m 81 #[.val (.long j0), .second, .val (.long j1), .second, .val (.long j2), .second, .val (.long j3), .second, .val (.int u4), .val (.int u5), .val (.ref b2), .val (.ref b8), .val (.ref b13), .val (.ref b22), .val (.ref b34), .unset, .unset, .unset] [(.int (lcmpW (0 : Int64) (0 : Int64)))])) t → Steps p.tables e below (T48.setTop (mkF m 79 #[.val (.long j0), .second, .val (.long j1), .second, .val (.long j2), .second, .val (.long j3), .second, .val (.int u4), .val (.int u5), .val (.ref b2), .val (.ref b8), .val (.ref b13), .val (.ref b22), .val (.ref b34), .unset, .unset, .unset] [(.long (0 : Int64))])) t := by
    intro t k
    show Steps p.tables e below (T48.setTop (mkF m 79 #[.val (.long j0), .second, .val (.long j1), .second, .val (.long j2), .second, .val (.long j3), .second, .val (.int u4), .val (.int u5), .val (.ref b2), .val (.ref b8), .val (.ref b13), .val (.ref b22), .val (.ref b34), .unset, .unset, .unset] [(.long (0 : Int64))])) t
    refine XS.lconst X48.here hx rfl (hb hby at_79) ?_
    show Steps p.tables e below (T48.setTop (mkF m 80 #[.val (.long j0), .second, .val (.long j1), .second, .val (.long j2), .second, .val (.long j3), .second, .val (.int u4), .val (.int u5), .val (.ref b2), .val (.ref b8), .val (.ref b13), .val (.ref b22), .val (.ref b34), .unset, .unset, .unset] [(.long (0 : Int64)), (.long (0 : Int64))])) t
    refine XS.lcmp X48.here hx rfl (hb hby at_80) rfl ?_
    exact k
  refine OFin.go S49 ?_
  have S50 : ∀ t, Steps p.tables e below (T48.setTop (mkF m 84 #[.val (.long j0), .second, .val (.long j1), .second, .val (.long j2), .second, .val (.long j3), .second, .val (.int u4), .val (.int u5), .val (.ref b2), .val (.ref b8), .val (.ref b13), .val (.ref b22), .val (.ref b34), .unset, .unset, .unset] [])) t → Steps p.tables e below (T48.setTop (mkF m 81 #[.val (.long j0), .second, .val (.long j1), .second, .val (.long j2), .second, .val (.long j3), .second, .val (.int u4), .val (.int u5), .val (.ref b2), .val (.ref b8), .val (.ref b13), .val (.ref b22), .val (.ref b34), .unset, .unset, .unset] [(.int (lcmpW (0 : Int64) (0 : Int64)))])) t := by
    intro t k
    show Steps p.tables e below (T48.setTop (mkF m 81 #[.val (.long j0), .second, .val (.long j1), .second, .val (.long j2), .second, .val (.long j3), .second, .val (.int u4), .val (.int u5), .val (.ref b2), .val (.ref b8), .val (.ref b13), .val (.ref b22), .val (.ref b34), .unset, .unset, .unset] [(.int (lcmpW (0 : Int64) (0 : Int64)))])) t
    refine XS.ifNo X48.here hx rfl (hb hby at_81) rfl (lc_ne_f (by decide)) ?_
    exact k
  refine OFin.go S50 ?_
  have S51 : ∀ t, Steps p.tables e below (T48.setTop (mkF m 86 #[.val (.long j0), .second, .val (.long j1), .second, .val (.long j2), .second, .val (.long j3), .second, .val (.int u4), .val (.int u5), .val (.ref b2), .val (.ref b8), .val (.ref b13), .val (.ref b22), .val (.ref b34), .unset, .unset, .unset] [(.ref b34)])) t → Steps p.tables e below (T48.setTop (mkF m 84 #[.val (.long j0), .second, .val (.long j1), .second, .val (.long j2), .second, .val (.long j3), .second, .val (.int u4), .val (.int u5), .val (.ref b2), .val (.ref b8), .val (.ref b13), .val (.ref b22), .val (.ref b34), .unset, .unset, .unset] [])) t := by
    intro t k
    show Steps p.tables e below (T48.setTop (mkF m 84 #[.val (.long j0), .second, .val (.long j1), .second, .val (.long j2), .second, .val (.long j3), .second, .val (.int u4), .val (.int u5), .val (.ref b2), .val (.ref b8), .val (.ref b13), .val (.ref b22), .val (.ref b34), .unset, .unset, .unset] [])) t
    refine XS.aload X48.here hx rfl (hb hby at_84) rfl rfl ?_
    exact k
  refine OFin.go S51 ?_
  obtain ⟨_, T52, Lc52, X52, hQ52, st52⟩ := virtQ X48 hx hZ (y := (⟨"com/example/tickwright/tickwright/io/ReplaySummary", "filledShares", "()J"⟩ : MethodName)) hown (hw _ (List.mem_of_getElem? (i := 44) rfl)) (hw _ (List.mem_of_getElem? (i := 46) rfl)) (hw _ (List.mem_of_getElem? (i := 32) rfl)) (hw _ (List.mem_of_getElem? (i := 48) rfl)) (hw _ (List.mem_of_getElem? (i := 45) rfl)) (hw _ (List.mem_of_getElem? (i := 47) rfl)) (by decide) A34 (argsL := []) (rest := []) (rm9 l Z a0 hw [] b34 (0 : Int64) h34 n0 Z34 F34_filledShares) (W := 0) (by decide) (by decide) e48 (g := (mkF m 86 #[.val (.long j0), .second, .val (.long j1), .second, .val (.long j2), .second, .val (.long j3), .second, .val (.int u4), .val (.int u5), .val (.ref b2), .val (.ref b8), .val (.ref b13), .val (.ref b22), .val (.ref b34), .unset, .unset, .unset] [(.ref b34)])) rfl (by rw [hml]; rfl) (lenOf pd_2 rfl) rfl (by show 2 * 0 + _ ≤ _; exact Nat.le_of_eq rfl) (hb hby at_86) (Nat.le_of_ble_eq_true rfl) (Nat.le_of_ble_eq_true rfl)
  obtain ⟨rfl, N52q, e52⟩ := hQ52
  have N52 := Fr.app N48 N52q
  refine OFin.go st52 ?_
  show OFin p e below _ (T52.setTop (mkF m 89 #[.val (.long j0), .second, .val (.long j1), .second, .val (.long j2), .second, .val (.long j3), .second, .val (.int u4), .val (.int u5), .val (.ref b2), .val (.ref b8), .val (.ref b13), .val (.ref b22), .val (.ref b34), .unset, .unset, .unset] [(.long (0 : Int64))]))
  have S53 : ∀ t, Steps p.tables e below (T52.setTop (mkF m 91 #[.val (.long j0), .second, .val (.long j1), .second, .val (.long j2), .second, .val (.long j3), .second, .val (.int u4), .val (.int u5), .val (.ref b2), .val (.ref b8), .val (.ref b13), .val (.ref b22), .val (.ref b34), .unset, .unset, .unset] [(.int (lcmpW (0 : Int64) (0 : Int64)))])) t → Steps p.tables e below (T52.setTop (mkF m 89 #[.val (.long j0), .second, .val (.long j1), .second, .val (.long j2), .second, .val (.long j3), .second, .val (.int u4), .val (.int u5), .val (.ref b2), .val (.ref b8), .val (.ref b13), .val (.ref b22), .val (.ref b34), .unset, .unset, .unset] [(.long (0 : Int64))])) t := by
    intro t k
    show Steps p.tables e below (T52.setTop (mkF m 89 #[.val (.long j0), .second, .val (.long j1), .second, .val (.long j2), .second, .val (.long j3), .second, .val (.int u4), .val (.int u5), .val (.ref b2), .val (.ref b8), .val (.ref b13), .val (.ref b22), .val (.ref b34), .unset, .unset, .unset] [(.long (0 : Int64))])) t
    refine XS.lconst X52.here hx rfl (hb hby at_89) ?_
    show Steps p.tables e below (T52.setTop (mkF m 90 #[.val (.long j0), .second, .val (.long j1), .second, .val (.long j2), .second, .val (.long j3), .second, .val (.int u4), .val (.int u5), .val (.ref b2), .val (.ref b8), .val (.ref b13), .val (.ref b22), .val (.ref b34), .unset, .unset, .unset] [(.long (0 : Int64)), (.long (0 : Int64))])) t
    refine XS.lcmp X52.here hx rfl (hb hby at_90) rfl ?_
    exact k
  refine OFin.go S53 ?_
  have S54 : ∀ t, Steps p.tables e below (T52.setTop (mkF m 94 #[.val (.long j0), .second, .val (.long j1), .second, .val (.long j2), .second, .val (.long j3), .second, .val (.int u4), .val (.int u5), .val (.ref b2), .val (.ref b8), .val (.ref b13), .val (.ref b22), .val (.ref b34), .unset, .unset, .unset] [])) t → Steps p.tables e below (T52.setTop (mkF m 91 #[.val (.long j0), .second, .val (.long j1), .second, .val (.long j2), .second, .val (.long j3), .second, .val (.int u4), .val (.int u5), .val (.ref b2), .val (.ref b8), .val (.ref b13), .val (.ref b22), .val (.ref b34), .unset, .unset, .unset] [(.int (lcmpW (0 : Int64) (0 : Int64)))])) t := by
    intro t k
    show Steps p.tables e below (T52.setTop (mkF m 91 #[.val (.long j0), .second, .val (.long j1), .second, .val (.long j2), .second, .val (.long j3), .second, .val (.int u4), .val (.int u5), .val (.ref b2), .val (.ref b8), .val (.ref b13), .val (.ref b22), .val (.ref b34), .unset, .unset, .unset] [(.int (lcmpW (0 : Int64) (0 : Int64)))])) t
    refine XS.ifNo X52.here hx rfl (hb hby at_91) rfl (lc_ne_f (by decide)) ?_
    exact k
  refine OFin.go S54 ?_
  have S55 : ∀ t, Steps p.tables e below (T52.setTop (mkF m 110 #[.val (.long j0), .second, .val (.long j1), .second, .val (.long j2), .second, .val (.long j3), .second, .val (.int u4), .val (.int u5), .val (.ref b2), .val (.ref b8), .val (.ref b13), .val (.ref b22), .val (.ref b34), .val (.int (1 : Int32)), .unset, .unset] [(.long j2), (.long j0), (.ref b22), (.ref b13), (.ref b34)])) t → Steps p.tables e below (T52.setTop (mkF m 94 #[.val (.long j0), .second, .val (.long j1), .second, .val (.long j2), .second, .val (.long j3), .second, .val (.int u4), .val (.int u5), .val (.ref b2), .val (.ref b8), .val (.ref b13), .val (.ref b22), .val (.ref b34), .unset, .unset, .unset] [])) t := by
    intro t k
    show Steps p.tables e below (T52.setTop (mkF m 94 #[.val (.long j0), .second, .val (.long j1), .second, .val (.long j2), .second, .val (.long j3), .second, .val (.int u4), .val (.int u5), .val (.ref b2), .val (.ref b8), .val (.ref b13), .val (.ref b22), .val (.ref b34), .unset, .unset, .unset] [])) t
    refine XS.iconst X52.here hx rfl (hb hby at_94) ?_
    show Steps p.tables e below (T52.setTop (mkF m 95 #[.val (.long j0), .second, .val (.long j1), .second, .val (.long j2), .second, .val (.long j3), .second, .val (.int u4), .val (.int u5), .val (.ref b2), .val (.ref b8), .val (.ref b13), .val (.ref b22), .val (.ref b34), .unset, .unset, .unset] [(.int (1 : Int32))])) t
    refine XS.goto X52.here hx rfl (pc0 := 95) (pc' := 99) rfl (hb hby at_95) (by decide) (by decide) ?_
    show Steps p.tables e below (T52.setTop (mkF m 99 #[.val (.long j0), .second, .val (.long j1), .second, .val (.long j2), .second, .val (.long j3), .second, .val (.int u4), .val (.int u5), .val (.ref b2), .val (.ref b8), .val (.ref b13), .val (.ref b22), .val (.ref b34), .unset, .unset, .unset] [(.int (1 : Int32))])) t
    refine XS.istore X52.here hx rfl (hb hby at_99) rfl (l' := #[.val (.long j0), .second, .val (.long j1), .second, .val (.long j2), .second, .val (.long j3), .second, .val (.int u4), .val (.int u5), .val (.ref b2), .val (.ref b8), .val (.ref b13), .val (.ref b22), .val (.ref b34), .val (.int (1 : Int32)), .unset, .unset]) rfl ?_
    show Steps p.tables e below (T52.setTop (mkF m 101 #[.val (.long j0), .second, .val (.long j1), .second, .val (.long j2), .second, .val (.long j3), .second, .val (.int u4), .val (.int u5), .val (.ref b2), .val (.ref b8), .val (.ref b13), .val (.ref b22), .val (.ref b34), .val (.int (1 : Int32)), .unset, .unset] [])) t
    refine XS.aload X52.here hx rfl (hb hby at_101) rfl rfl ?_
    show Steps p.tables e below (T52.setTop (mkF m 103 #[.val (.long j0), .second, .val (.long j1), .second, .val (.long j2), .second, .val (.long j3), .second, .val (.int u4), .val (.int u5), .val (.ref b2), .val (.ref b8), .val (.ref b13), .val (.ref b22), .val (.ref b34), .val (.int (1 : Int32)), .unset, .unset] [(.ref b34)])) t
    refine XS.aload X52.here hx rfl (hb hby at_103) rfl rfl ?_
    show Steps p.tables e below (T52.setTop (mkF m 105 #[.val (.long j0), .second, .val (.long j1), .second, .val (.long j2), .second, .val (.long j3), .second, .val (.int u4), .val (.int u5), .val (.ref b2), .val (.ref b8), .val (.ref b13), .val (.ref b22), .val (.ref b34), .val (.int (1 : Int32)), .unset, .unset] [(.ref b13), (.ref b34)])) t
    refine XS.aload X52.here hx rfl (hb hby at_105) rfl rfl ?_
    show Steps p.tables e below (T52.setTop (mkF m 107 #[.val (.long j0), .second, .val (.long j1), .second, .val (.long j2), .second, .val (.long j3), .second, .val (.int u4), .val (.int u5), .val (.ref b2), .val (.ref b8), .val (.ref b13), .val (.ref b22), .val (.ref b34), .val (.int (1 : Int32)), .unset, .unset] [(.ref b22), (.ref b13), (.ref b34)])) t
    refine XS.lloadN X52.here hx rfl (hb hby at_107) rfl ?_
    show Steps p.tables e below (T52.setTop (mkF m 108 #[.val (.long j0), .second, .val (.long j1), .second, .val (.long j2), .second, .val (.long j3), .second, .val (.int u4), .val (.int u5), .val (.ref b2), .val (.ref b8), .val (.ref b13), .val (.ref b22), .val (.ref b34), .val (.int (1 : Int32)), .unset, .unset] [(.long j0), (.ref b22), (.ref b13), (.ref b34)])) t
    refine XS.lload X52.here hx rfl (hb hby at_108) rfl ?_
    exact k
  refine OFin.go S55 ?_
  obtain ⟨_, T56, Lc56, X56, hQ56, st56⟩ := virtQ X52 hx hZ (y := (⟨"com/example/tickwright/tickwright/io/ReplaySummary", "fill", "(Ljava/lang/String;Ljava/lang/String;JJ)V"⟩ : MethodName)) hown (hw _ (List.mem_of_getElem? (i := 51) rfl)) (hw _ (List.mem_of_getElem? (i := 53) rfl)) (hw _ (List.mem_of_getElem? (i := 32) rfl)) (hw _ (List.mem_of_getElem? (i := 55) rfl)) (hw _ (List.mem_of_getElem? (i := 52) rfl)) (hw _ (List.mem_of_getElem? (i := 54) rfl)) (by decide) A34 (argsL := [(.ref b13), (.ref b22), (.long j0), (.long j2)]) (rest := []) (rm10 l Z a0 hw [] b34 b13 b22 j0 j2 (0 : Int64) (0 : Int64) h34 n0 Z34 ge34 A34 F34_fills F34_filledShares) (W := 0) (by decide) (by decide) e52 (g := (mkF m 110 #[.val (.long j0), .second, .val (.long j1), .second, .val (.long j2), .second, .val (.long j3), .second, .val (.int u4), .val (.int u5), .val (.ref b2), .val (.ref b8), .val (.ref b13), .val (.ref b22), .val (.ref b34), .val (.int (1 : Int32)), .unset, .unset] [(.long j2), (.long j0), (.ref b22), (.ref b13), (.ref b34)])) rfl (by rw [hml]; rfl) (lenOf pd_3 rfl) rfl (by show 2 * 0 + _ ≤ _; exact Nat.le_of_eq rfl) (hb hby at_110) (Nat.le_of_ble_eq_true rfl) (Nat.le_of_ble_eq_true rfl)
  obtain ⟨rfl, N56q, K56q, Fa56, Fb56⟩ := hQ56
  have Z56 : n0 ≤ T56.heap.size := Nat.le_trans Z34 K56q.1
  have O56 := Old.keep O34 K56q (allS ge34 all0)
  have N56 := Fr.app N52 N56q
  refine OFin.go st56 ?_
  show OFin p e below _ (T56.setTop (mkF m 113 #[.val (.long j0), .second, .val (.long j1), .second, .val (.long j2), .second, .val (.long j3), .second, .val (.int u4), .val (.int u5), .val (.ref b2), .val (.ref b8), .val (.ref b13), .val (.ref b22), .val (.ref b34), .val (.int (1 : Int32)), .unset, .unset] []))
  have S57 : ∀ t, Steps p.tables e below (T56.setTop (mkF m 115 #[.val (.long j0), .second, .val (.long j1), .second, .val (.long j2), .second, .val (.long j3), .second, .val (.int u4), .val (.int u5), .val (.ref b2), .val (.ref b8), .val (.ref b13), .val (.ref b22), .val (.ref b34), .val (.int (1 : Int32)), .unset, .unset] [(.int (1 : Int32))])) t → Steps p.tables e below (T56.setTop (mkF m 113 #[.val (.long j0), .second, .val (.long j1), .second, .val (.long j2), .second, .val (.long j3), .second, .val (.int u4), .val (.int u5), .val (.ref b2), .val (.ref b8), .val (.ref b13), .val (.ref b22), .val (.ref b34), .val (.int (1 : Int32)), .unset, .unset] [])) t := by
    intro t k
    show Steps p.tables e below (T56.setTop (mkF m 113 #[.val (.long j0), .second, .val (.long j1), .second, .val (.long j2), .second, .val (.long j3), .second, .val (.int u4), .val (.int u5), .val (.ref b2), .val (.ref b8), .val (.ref b13), .val (.ref b22), .val (.ref b34), .val (.int (1 : Int32)), .unset, .unset] [])) t
    refine XS.iload X56.here hx rfl (hb hby at_113) rfl ?_
    exact k
  refine OFin.go S57 ?_
  have S58 : ∀ t, Steps p.tables e below (T56.setTop (mkF m 118 #[.val (.long j0), .second, .val (.long j1), .second, .val (.long j2), .second, .val (.long j3), .second, .val (.int u4), .val (.int u5), .val (.ref b2), .val (.ref b8), .val (.ref b13), .val (.ref b22), .val (.ref b34), .val (.int (1 : Int32)), .unset, .unset] [])) t → Steps p.tables e below (T56.setTop (mkF m 115 #[.val (.long j0), .second, .val (.long j1), .second, .val (.long j2), .second, .val (.long j3), .second, .val (.int u4), .val (.int u5), .val (.ref b2), .val (.ref b8), .val (.ref b13), .val (.ref b22), .val (.ref b34), .val (.int (1 : Int32)), .unset, .unset] [(.int (1 : Int32))])) t := by
    intro t k
    show Steps p.tables e below (T56.setTop (mkF m 115 #[.val (.long j0), .second, .val (.long j1), .second, .val (.long j2), .second, .val (.long j3), .second, .val (.int u4), .val (.int u5), .val (.ref b2), .val (.ref b8), .val (.ref b13), .val (.ref b22), .val (.ref b34), .val (.int (1 : Int32)), .unset, .unset] [(.int (1 : Int32))])) t
    refine XS.ifNo X56.here hx rfl (hb hby at_115) rfl ((if0 _ _).trans (feq (by decide)).1) ?_
    exact k
  refine OFin.go S58 ?_
  have S59 : ∀ t, Steps p.tables e below (T56.setTop (mkF m 120 #[.val (.long j0), .second, .val (.long j1), .second, .val (.long j2), .second, .val (.long j3), .second, .val (.int u4), .val (.int u5), .val (.ref b2), .val (.ref b8), .val (.ref b13), .val (.ref b22), .val (.ref b34), .val (.int (1 : Int32)), .unset, .unset] [(.ref b34)])) t → Steps p.tables e below (T56.setTop (mkF m 118 #[.val (.long j0), .second, .val (.long j1), .second, .val (.long j2), .second, .val (.long j3), .second, .val (.int u4), .val (.int u5), .val (.ref b2), .val (.ref b8), .val (.ref b13), .val (.ref b22), .val (.ref b34), .val (.int (1 : Int32)), .unset, .unset] [])) t := by
    intro t k
    show Steps p.tables e below (T56.setTop (mkF m 118 #[.val (.long j0), .second, .val (.long j1), .second, .val (.long j2), .second, .val (.long j3), .second, .val (.int u4), .val (.int u5), .val (.ref b2), .val (.ref b8), .val (.ref b13), .val (.ref b22), .val (.ref b34), .val (.int (1 : Int32)), .unset, .unset] [])) t
    refine XS.aload X56.here hx rfl (hb hby at_118) rfl rfl ?_
    exact k
  refine OFin.go S59 ?_
  have F61 := A34.keep K56q
  obtain ⟨_, T60, Lc60, X60, hQ60, st60⟩ := virtQ X56 hx hZ (y := (⟨"com/example/tickwright/tickwright/io/ReplaySummary", "fills", "()J"⟩ : MethodName)) hown (hw _ (List.mem_of_getElem? (i := 37) rfl)) (hw _ (List.mem_of_getElem? (i := 39) rfl)) (hw _ (List.mem_of_getElem? (i := 32) rfl)) (hw _ (List.mem_of_getElem? (i := 41) rfl)) (hw _ (List.mem_of_getElem? (i := 38) rfl)) (hw _ (List.mem_of_getElem? (i := 40) rfl)) (by decide) F61 (argsL := []) (rest := []) (rm8 l Z a0 hw [] b34 ((0 : Int64) + (1 : Int64)) T56.heap n0 Z56 Fa56) (W := 0) (by decide) (by decide) rfl (g := (mkF m 120 #[.val (.long j0), .second, .val (.long j1), .second, .val (.long j2), .second, .val (.long j3), .second, .val (.int u4), .val (.int u5), .val (.ref b2), .val (.ref b8), .val (.ref b13), .val (.ref b22), .val (.ref b34), .val (.int (1 : Int32)), .unset, .unset] [(.ref b34)])) rfl (by rw [hml]; rfl) (lenOf pd_2 rfl) rfl (by show 2 * 0 + _ ≤ _; exact Nat.le_of_eq rfl) (hb hby at_120) (Nat.le_of_ble_eq_true rfl) (Nat.le_of_ble_eq_true rfl)
  obtain ⟨rfl, N60q, e60⟩ := hQ60
  have N60 := Fr.app N56 N60q
  refine OFin.go st60 ?_
  show OFin p e below _ (T60.setTop (mkF m 123 #[.val (.long j0), .second, .val (.long j1), .second, .val (.long j2), .second, .val (.long j3), .second, .val (.int u4), .val (.int u5), .val (.ref b2), .val (.ref b8), .val (.ref b13), .val (.ref b22), .val (.ref b34), .val (.int (1 : Int32)), .unset, .unset] [(.long ((0 : Int64) + (1 : Int64)))]))
  have S62 : ∀ t, Steps p.tables e below (T60.setTop (mkF m 125 #[.val (.long j0), .second, .val (.long j1), .second, .val (.long j2), .second, .val (.long j3), .second, .val (.int u4), .val (.int u5), .val (.ref b2), .val (.ref b8), .val (.ref b13), .val (.ref b22), .val (.ref b34), .val (.int (1 : Int32)), .unset, .unset] [(.int (lcmpW ((0 : Int64) + (1 : Int64)) (1 : Int64)))])) t → Steps p.tables e below (T60.setTop (mkF m 123 #[.val (.long j0), .second, .val (.long j1), .second, .val (.long j2), .second, .val (.long j3), .second, .val (.int u4), .val (.int u5), .val (.ref b2), .val (.ref b8), .val (.ref b13), .val (.ref b22), .val (.ref b34), .val (.int (1 : Int32)), .unset, .unset] [(.long ((0 : Int64) + (1 : Int64)))])) t := by
    intro t k
    show Steps p.tables e below (T60.setTop (mkF m 123 #[.val (.long j0), .second, .val (.long j1), .second, .val (.long j2), .second, .val (.long j3), .second, .val (.int u4), .val (.int u5), .val (.ref b2), .val (.ref b8), .val (.ref b13), .val (.ref b22), .val (.ref b34), .val (.int (1 : Int32)), .unset, .unset] [(.long ((0 : Int64) + (1 : Int64)))])) t
    refine XS.lconst X60.here hx rfl (hb hby at_123) ?_
    show Steps p.tables e below (T60.setTop (mkF m 124 #[.val (.long j0), .second, .val (.long j1), .second, .val (.long j2), .second, .val (.long j3), .second, .val (.int u4), .val (.int u5), .val (.ref b2), .val (.ref b8), .val (.ref b13), .val (.ref b22), .val (.ref b34), .val (.int (1 : Int32)), .unset, .unset] [(.long (1 : Int64)), (.long ((0 : Int64) + (1 : Int64)))])) t
    refine XS.lcmp X60.here hx rfl (hb hby at_124) rfl ?_
    exact k
  refine OFin.go S62 ?_
  have S63 : ∀ t, Steps p.tables e below (T60.setTop (mkF m 128 #[.val (.long j0), .second, .val (.long j1), .second, .val (.long j2), .second, .val (.long j3), .second, .val (.int u4), .val (.int u5), .val (.ref b2), .val (.ref b8), .val (.ref b13), .val (.ref b22), .val (.ref b34), .val (.int (1 : Int32)), .unset, .unset] [])) t → Steps p.tables e below (T60.setTop (mkF m 125 #[.val (.long j0), .second, .val (.long j1), .second, .val (.long j2), .second, .val (.long j3), .second, .val (.int u4), .val (.int u5), .val (.ref b2), .val (.ref b8), .val (.ref b13), .val (.ref b22), .val (.ref b34), .val (.int (1 : Int32)), .unset, .unset] [(.int (lcmpW ((0 : Int64) + (1 : Int64)) (1 : Int64)))])) t := by
    intro t k
    show Steps p.tables e below (T60.setTop (mkF m 125 #[.val (.long j0), .second, .val (.long j1), .second, .val (.long j2), .second, .val (.long j3), .second, .val (.int u4), .val (.int u5), .val (.ref b2), .val (.ref b8), .val (.ref b13), .val (.ref b22), .val (.ref b34), .val (.int (1 : Int32)), .unset, .unset] [(.int (lcmpW ((0 : Int64) + (1 : Int64)) (1 : Int64)))])) t
    refine XS.ifNo X60.here hx rfl (hb hby at_125) rfl (lc_ne_f (own_l125 j0 j1 j2 j3 )) ?_
    exact k
  refine OFin.go S63 ?_
  have S64 : ∀ t, Steps p.tables e below (T60.setTop (mkF m 130 #[.val (.long j0), .second, .val (.long j1), .second, .val (.long j2), .second, .val (.long j3), .second, .val (.int u4), .val (.int u5), .val (.ref b2), .val (.ref b8), .val (.ref b13), .val (.ref b22), .val (.ref b34), .val (.int (1 : Int32)), .unset, .unset] [(.ref b34)])) t → Steps p.tables e below (T60.setTop (mkF m 128 #[.val (.long j0), .second, .val (.long j1), .second, .val (.long j2), .second, .val (.long j3), .second, .val (.int u4), .val (.int u5), .val (.ref b2), .val (.ref b8), .val (.ref b13), .val (.ref b22), .val (.ref b34), .val (.int (1 : Int32)), .unset, .unset] [])) t := by
    intro t k
    show Steps p.tables e below (T60.setTop (mkF m 128 #[.val (.long j0), .second, .val (.long j1), .second, .val (.long j2), .second, .val (.long j3), .second, .val (.int u4), .val (.int u5), .val (.ref b2), .val (.ref b8), .val (.ref b13), .val (.ref b22), .val (.ref b34), .val (.int (1 : Int32)), .unset, .unset] [])) t
    refine XS.aload X60.here hx rfl (hb hby at_128) rfl rfl ?_
    exact k
  refine OFin.go S64 ?_
  obtain ⟨_, T65, Lc65, X65, hQ65, st65⟩ := virtQ X60 hx hZ (y := (⟨"com/example/tickwright/tickwright/io/ReplaySummary", "filledShares", "()J"⟩ : MethodName)) hown (hw _ (List.mem_of_getElem? (i := 44) rfl)) (hw _ (List.mem_of_getElem? (i := 46) rfl)) (hw _ (List.mem_of_getElem? (i := 32) rfl)) (hw _ (List.mem_of_getElem? (i := 48) rfl)) (hw _ (List.mem_of_getElem? (i := 45) rfl)) (hw _ (List.mem_of_getElem? (i := 47) rfl)) (by decide) F61 (argsL := []) (rest := []) (rm9 l Z a0 hw [] b34 ((0 : Int64) + j0) T56.heap n0 Z56 Fb56) (W := 0) (by decide) (by decide) e60 (g := (mkF m 130 #[.val (.long j0), .second, .val (.long j1), .second, .val (.long j2), .second, .val (.long j3), .second, .val (.int u4), .val (.int u5), .val (.ref b2), .val (.ref b8), .val (.ref b13), .val (.ref b22), .val (.ref b34), .val (.int (1 : Int32)), .unset, .unset] [(.ref b34)])) rfl (by rw [hml]; rfl) (lenOf pd_2 rfl) rfl (by show 2 * 0 + _ ≤ _; exact Nat.le_of_eq rfl) (hb hby at_130) (Nat.le_of_ble_eq_true rfl) (Nat.le_of_ble_eq_true rfl)
  obtain ⟨rfl, N65q, e65⟩ := hQ65
  have N65 := Fr.app N60 N65q
  refine OFin.go st65 ?_
  show OFin p e below _ (T65.setTop (mkF m 133 #[.val (.long j0), .second, .val (.long j1), .second, .val (.long j2), .second, .val (.long j3), .second, .val (.int u4), .val (.int u5), .val (.ref b2), .val (.ref b8), .val (.ref b13), .val (.ref b22), .val (.ref b34), .val (.int (1 : Int32)), .unset, .unset] [(.long ((0 : Int64) + j0))]))
  have S66 : ∀ t, Steps p.tables e below (T65.setTop (mkF m 135 #[.val (.long j0), .second, .val (.long j1), .second, .val (.long j2), .second, .val (.long j3), .second, .val (.int u4), .val (.int u5), .val (.ref b2), .val (.ref b8), .val (.ref b13), .val (.ref b22), .val (.ref b34), .val (.int (1 : Int32)), .unset, .unset] [(.int (lcmpW ((0 : Int64) + j0) j0))])) t → Steps p.tables e below (T65.setTop (mkF m 133 #[.val (.long j0), .second, .val (.long j1), .second, .val (.long j2), .second, .val (.long j3), .second, .val (.int u4), .val (.int u5), .val (.ref b2), .val (.ref b8), .val (.ref b13), .val (.ref b22), .val (.ref b34), .val (.int (1 : Int32)), .unset, .unset] [(.long ((0 : Int64) + j0))])) t := by
    intro t k
    show Steps p.tables e below (T65.setTop (mkF m 133 #[.val (.long j0), .second, .val (.long j1), .second, .val (.long j2), .second, .val (.long j3), .second, .val (.int u4), .val (.int u5), .val (.ref b2), .val (.ref b8), .val (.ref b13), .val (.ref b22), .val (.ref b34), .val (.int (1 : Int32)), .unset, .unset] [(.long ((0 : Int64) + j0))])) t
    refine XS.lloadN X65.here hx rfl (hb hby at_133) rfl ?_
    show Steps p.tables e below (T65.setTop (mkF m 134 #[.val (.long j0), .second, .val (.long j1), .second, .val (.long j2), .second, .val (.long j3), .second, .val (.int u4), .val (.int u5), .val (.ref b2), .val (.ref b8), .val (.ref b13), .val (.ref b22), .val (.ref b34), .val (.int (1 : Int32)), .unset, .unset] [(.long j0), (.long ((0 : Int64) + j0))])) t
    refine XS.lcmp X65.here hx rfl (hb hby at_134) rfl ?_
    exact k
  refine OFin.go S66 ?_
  have S67 : ∀ t, Steps p.tables e below (T65.setTop (mkF m 138 #[.val (.long j0), .second, .val (.long j1), .second, .val (.long j2), .second, .val (.long j3), .second, .val (.int u4), .val (.int u5), .val (.ref b2), .val (.ref b8), .val (.ref b13), .val (.ref b22), .val (.ref b34), .val (.int (1 : Int32)), .unset, .unset] [])) t → Steps p.tables e below (T65.setTop (mkF m 135 #[.val (.long j0), .second, .val (.long j1), .second, .val (.long j2), .second, .val (.long j3), .second, .val (.int u4), .val (.int u5), .val (.ref b2), .val (.ref b8), .val (.ref b13), .val (.ref b22), .val (.ref b34), .val (.int (1 : Int32)), .unset, .unset] [(.int (lcmpW ((0 : Int64) + j0) j0))])) t := by
    intro t k
    show Steps p.tables e below (T65.setTop (mkF m 135 #[.val (.long j0), .second, .val (.long j1), .second, .val (.long j2), .second, .val (.long j3), .second, .val (.int u4), .val (.int u5), .val (.ref b2), .val (.ref b8), .val (.ref b13), .val (.ref b22), .val (.ref b34), .val (.int (1 : Int32)), .unset, .unset] [(.int (lcmpW ((0 : Int64) + j0) j0))])) t
    refine XS.ifNo X65.here hx rfl (hb hby at_135) rfl (lc_ne_f (own_l135 j0 j1 j2 j3 )) ?_
    exact k
  refine OFin.go S67 ?_
  have S68 : ∀ t, Steps p.tables e below (T65.setTop (mkF m 154 #[.val (.long j0), .second, .val (.long j1), .second, .val (.long j2), .second, .val (.long j3), .second, .val (.int u4), .val (.int u5), .val (.ref b2), .val (.ref b8), .val (.ref b13), .val (.ref b22), .val (.ref b34), .val (.int (1 : Int32)), .unset, .unset] [(.long j3), (.long j1), (.ref b13), (.ref b22), (.ref b34)])) t → Steps p.tables e below (T65.setTop (mkF m 138 #[.val (.long j0), .second, .val (.long j1), .second, .val (.long j2), .second, .val (.long j3), .second, .val (.int u4), .val (.int u5), .val (.ref b2), .val (.ref b8), .val (.ref b13), .val (.ref b22), .val (.ref b34), .val (.int (1 : Int32)), .unset, .unset] [])) t := by
    intro t k
    show Steps p.tables e below (T65.setTop (mkF m 138 #[.val (.long j0), .second, .val (.long j1), .second, .val (.long j2), .second, .val (.long j3), .second, .val (.int u4), .val (.int u5), .val (.ref b2), .val (.ref b8), .val (.ref b13), .val (.ref b22), .val (.ref b34), .val (.int (1 : Int32)), .unset, .unset] [])) t
    refine XS.iconst X65.here hx rfl (hb hby at_138) ?_
    show Steps p.tables e below (T65.setTop (mkF m 139 #[.val (.long j0), .second, .val (.long j1), .second, .val (.long j2), .second, .val (.long j3), .second, .val (.int u4), .val (.int u5), .val (.ref b2), .val (.ref b8), .val (.ref b13), .val (.ref b22), .val (.ref b34), .val (.int (1 : Int32)), .unset, .unset] [(.int (1 : Int32))])) t
    refine XS.goto X65.here hx rfl (pc0 := 139) (pc' := 143) rfl (hb hby at_139) (by decide) (by decide) ?_
    show Steps p.tables e below (T65.setTop (mkF m 143 #[.val (.long j0), .second, .val (.long j1), .second, .val (.long j2), .second, .val (.long j3), .second, .val (.int u4), .val (.int u5), .val (.ref b2), .val (.ref b8), .val (.ref b13), .val (.ref b22), .val (.ref b34), .val (.int (1 : Int32)), .unset, .unset] [(.int (1 : Int32))])) t
    refine XS.istore X65.here hx rfl (hb hby at_143) rfl (l' := #[.val (.long j0), .second, .val (.long j1), .second, .val (.long j2), .second, .val (.long j3), .second, .val (.int u4), .val (.int u5), .val (.ref b2), .val (.ref b8), .val (.ref b13), .val (.ref b22), .val (.ref b34), .val (.int (1 : Int32)), .unset, .unset]) rfl ?_
    show Steps p.tables e below (T65.setTop (mkF m 145 #[.val (.long j0), .second, .val (.long j1), .second, .val (.long j2), .second, .val (.long j3), .second, .val (.int u4), .val (.int u5), .val (.ref b2), .val (.ref b8), .val (.ref b13), .val (.ref b22), .val (.ref b34), .val (.int (1 : Int32)), .unset, .unset] [])) t
    refine XS.aload X65.here hx rfl (hb hby at_145) rfl rfl ?_
    show Steps p.tables e below (T65.setTop (mkF m 147 #[.val (.long j0), .second, .val (.long j1), .second, .val (.long j2), .second, .val (.long j3), .second, .val (.int u4), .val (.int u5), .val (.ref b2), .val (.ref b8), .val (.ref b13), .val (.ref b22), .val (.ref b34), .val (.int (1 : Int32)), .unset, .unset] [(.ref b34)])) t
    refine XS.aload X65.here hx rfl (hb hby at_147) rfl rfl ?_
    show Steps p.tables e below (T65.setTop (mkF m 149 #[.val (.long j0), .second, .val (.long j1), .second, .val (.long j2), .second, .val (.long j3), .second, .val (.int u4), .val (.int u5), .val (.ref b2), .val (.ref b8), .val (.ref b13), .val (.ref b22), .val (.ref b34), .val (.int (1 : Int32)), .unset, .unset] [(.ref b22), (.ref b34)])) t
    refine XS.aload X65.here hx rfl (hb hby at_149) rfl rfl ?_
    show Steps p.tables e below (T65.setTop (mkF m 151 #[.val (.long j0), .second, .val (.long j1), .second, .val (.long j2), .second, .val (.long j3), .second, .val (.int u4), .val (.int u5), .val (.ref b2), .val (.ref b8), .val (.ref b13), .val (.ref b22), .val (.ref b34), .val (.int (1 : Int32)), .unset, .unset] [(.ref b13), (.ref b22), (.ref b34)])) t
    refine XS.lloadN X65.here hx rfl (hb hby at_151) rfl ?_
    show Steps p.tables e below (T65.setTop (mkF m 152 #[.val (.long j0), .second, .val (.long j1), .second, .val (.long j2), .second, .val (.long j3), .second, .val (.int u4), .val (.int u5), .val (.ref b2), .val (.ref b8), .val (.ref b13), .val (.ref b22), .val (.ref b34), .val (.int (1 : Int32)), .unset, .unset] [(.long j1), (.ref b13), (.ref b22), (.ref b34)])) t
    refine XS.lload X65.here hx rfl (hb hby at_152) rfl ?_
    exact k
  refine OFin.go S68 ?_
  obtain ⟨_, T69, Lc69, X69, hQ69, st69⟩ := virtQ X65 hx hZ (y := (⟨"com/example/tickwright/tickwright/io/ReplaySummary", "fill", "(Ljava/lang/String;Ljava/lang/String;JJ)V"⟩ : MethodName)) hown (hw _ (List.mem_of_getElem? (i := 51) rfl)) (hw _ (List.mem_of_getElem? (i := 53) rfl)) (hw _ (List.mem_of_getElem? (i := 32) rfl)) (hw _ (List.mem_of_getElem? (i := 55) rfl)) (hw _ (List.mem_of_getElem? (i := 52) rfl)) (hw _ (List.mem_of_getElem? (i := 54) rfl)) (by decide) F61 (argsL := [(.ref b22), (.ref b13), (.long j1), (.long j3)]) (rest := []) (rm10 l Z a0 hw [] b34 b22 b13 j1 j3 ((0 : Int64) + (1 : Int64)) ((0 : Int64) + j0) T56.heap n0 Z56 ge34 F61 Fa56 Fb56) (W := 0) (by decide) (by decide) e65 (g := (mkF m 154 #[.val (.long j0), .second, .val (.long j1), .second, .val (.long j2), .second, .val (.long j3), .second, .val (.int u4), .val (.int u5), .val (.ref b2), .val (.ref b8), .val (.ref b13), .val (.ref b22), .val (.ref b34), .val (.int (1 : Int32)), .unset, .unset] [(.long j3), (.long j1), (.ref b13), (.ref b22), (.ref b34)])) rfl (by rw [hml]; rfl) (lenOf pd_3 rfl) rfl (by show 2 * 0 + _ ≤ _; exact Nat.le_of_eq rfl) (hb hby at_154) (Nat.le_of_ble_eq_true rfl) (Nat.le_of_ble_eq_true rfl)
  obtain ⟨rfl, N69q, K69q, Fa69, Fb69⟩ := hQ69
  have Z69 : n0 ≤ T69.heap.size := Nat.le_trans Z56 K69q.1
  have O69 := Old.keep O56 K69q (allS ge34 all0)
  have N69 := Fr.app N65 N69q
  refine OFin.go st69 ?_
  show OFin p e below _ (T69.setTop (mkF m 157 #[.val (.long j0), .second, .val (.long j1), .second, .val (.long j2), .second, .val (.long j3), .second, .val (.int u4), .val (.int u5), .val (.ref b2), .val (.ref b8), .val (.ref b13), .val (.ref b22), .val (.ref b34), .val (.int (1 : Int32)), .unset, .unset] []))
  have S70 : ∀ t, Steps p.tables e below (T69.setTop (mkF m 164 #[.val (.long j0), .second, .val (.long j1), .second, .val (.long j2), .second, .val (.long j3), .second, .val (.int u4), .val (.int u5), .val (.ref b2), .val (.ref b8), .val (.ref b13), .val (.ref b22), .val (.ref b34), .val (.int (1 : Int32)), .val (.long (j0 + j1)), .second] [(.int (1 : Int32))])) t → Steps p.tables e below (T69.setTop (mkF m 157 #[.val (.long j0), .second, .val (.long j1), .second, .val (.long j2), .second, .val (.long j3), .second, .val (.int u4), .val (.int u5), .val (.ref b2), .val (.ref b8), .val (.ref b13), .val (.ref b22), .val (.ref b34), .val (.int (1 : Int32)), .unset, .unset] [])) t := by
    intro t k
    show Steps p.tables e below (T69.setTop (mkF m 157 #[.val (.long j0), .second, .val (.long j1), .second, .val (.long j2), .second, .val (.long j3), .second, .val (.int u4), .val (.int u5), .val (.ref b2), .val (.ref b8), .val (.ref b13), .val (.ref b22), .val (.ref b34), .val (.int (1 : Int32)), .unset, .unset] [])) t
    refine XS.lloadN X69.here hx rfl (hb hby at_157) rfl ?_
    show Steps p.tables e below (T69.setTop (mkF m 158 #[.val (.long j0), .second, .val (.long j1), .second, .val (.long j2), .second, .val (.long j3), .second, .val (.int u4), .val (.int u5), .val (.ref b2), .val (.ref b8), .val (.ref b13), .val (.ref b22), .val (.ref b34), .val (.int (1 : Int32)), .unset, .unset] [(.long j0)])) t
    refine XS.lloadN X69.here hx rfl (hb hby at_158) rfl ?_
    show Steps p.tables e below (T69.setTop (mkF m 159 #[.val (.long j0), .second, .val (.long j1), .second, .val (.long j2), .second, .val (.long j3), .second, .val (.int u4), .val (.int u5), .val (.ref b2), .val (.ref b8), .val (.ref b13), .val (.ref b22), .val (.ref b34), .val (.int (1 : Int32)), .unset, .unset] [(.long j1), (.long j0)])) t
    refine XS.ladd X69.here hx rfl (hb hby at_159) rfl ?_
    show Steps p.tables e below (T69.setTop (mkF m 160 #[.val (.long j0), .second, .val (.long j1), .second, .val (.long j2), .second, .val (.long j3), .second, .val (.int u4), .val (.int u5), .val (.ref b2), .val (.ref b8), .val (.ref b13), .val (.ref b22), .val (.ref b34), .val (.int (1 : Int32)), .unset, .unset] [(.long (j0 + j1))])) t
    refine XS.lstore X69.here hx rfl (hb hby at_160) rfl (l' := #[.val (.long j0), .second, .val (.long j1), .second, .val (.long j2), .second, .val (.long j3), .second, .val (.int u4), .val (.int u5), .val (.ref b2), .val (.ref b8), .val (.ref b13), .val (.ref b22), .val (.ref b34), .val (.int (1 : Int32)), .val (.long (j0 + j1)), .second]) rfl ?_
    show Steps p.tables e below (T69.setTop (mkF m 162 #[.val (.long j0), .second, .val (.long j1), .second, .val (.long j2), .second, .val (.long j3), .second, .val (.int u4), .val (.int u5), .val (.ref b2), .val (.ref b8), .val (.ref b13), .val (.ref b22), .val (.ref b34), .val (.int (1 : Int32)), .val (.long (j0 + j1)), .second] [])) t
    refine XS.iload X69.here hx rfl (hb hby at_162) rfl ?_
    exact k
  refine OFin.go S70 ?_
  have S71 : ∀ t, Steps p.tables e below (T69.setTop (mkF m 167 #[.val (.long j0), .second, .val (.long j1), .second, .val (.long j2), .second, .val (.long j3), .second, .val (.int u4), .val (.int u5), .val (.ref b2), .val (.ref b8), .val (.ref b13), .val (.ref b22), .val (.ref b34), .val (.int (1 : Int32)), .val (.long (j0 + j1)), .second] [])) t → Steps p.tables e below (T69.setTop (mkF m 164 #[.val (.long j0), .second, .val (.long j1), .second, .val (.long j2), .second, .val (.long j3), .second, .val (.int u4), .val (.int u5), .val (.ref b2), .val (.ref b8), .val (.ref b13), .val (.ref b22), .val (.ref b34), .val (.int (1 : Int32)), .val (.long (j0 + j1)), .second] [(.int (1 : Int32))])) t := by
    intro t k
    show Steps p.tables e below (T69.setTop (mkF m 164 #[.val (.long j0), .second, .val (.long j1), .second, .val (.long j2), .second, .val (.long j3), .second, .val (.int u4), .val (.int u5), .val (.ref b2), .val (.ref b8), .val (.ref b13), .val (.ref b22), .val (.ref b34), .val (.int (1 : Int32)), .val (.long (j0 + j1)), .second] [(.int (1 : Int32))])) t
    refine XS.ifNo X69.here hx rfl (hb hby at_164) rfl ((if0 _ _).trans (feq (by decide)).1) ?_
    exact k
  refine OFin.go S71 ?_
  have S72 : ∀ t, Steps p.tables e below (T69.setTop (mkF m 169 #[.val (.long j0), .second, .val (.long j1), .second, .val (.long j2), .second, .val (.long j3), .second, .val (.int u4), .val (.int u5), .val (.ref b2), .val (.ref b8), .val (.ref b13), .val (.ref b22), .val (.ref b34), .val (.int (1 : Int32)), .val (.long (j0 + j1)), .second] [(.ref b34)])) t → Steps p.tables e below (T69.setTop (mkF m 167 #[.val (.long j0), .second, .val (.long j1), .second, .val (.long j2), .second, .val (.long j3), .second, .val (.int u4), .val (.int u5), .val (.ref b2), .val (.ref b8), .val (.ref b13), .val (.ref b22), .val (.ref b34), .val (.int (1 : Int32)), .val (.long (j0 + j1)), .second] [])) t := by
    intro t k
    show Steps p.tables e below (T69.setTop (mkF m 167 #[.val (.long j0), .second, .val (.long j1), .second, .val (.long j2), .second, .val (.long j3), .second, .val (.int u4), .val (.int u5), .val (.ref b2), .val (.ref b8), .val (.ref b13), .val (.ref b22), .val (.ref b34), .val (.int (1 : Int32)), .val (.long (j0 + j1)), .second] [])) t
    refine XS.aload X69.here hx rfl (hb hby at_167) rfl rfl ?_
    exact k
  refine OFin.go S72 ?_
  have F74 := F61.keep K69q
  obtain ⟨_, T73, Lc73, X73, hQ73, st73⟩ := virtQ X69 hx hZ (y := (⟨"com/example/tickwright/tickwright/io/ReplaySummary", "fills", "()J"⟩ : MethodName)) hown (hw _ (List.mem_of_getElem? (i := 37) rfl)) (hw _ (List.mem_of_getElem? (i := 39) rfl)) (hw _ (List.mem_of_getElem? (i := 32) rfl)) (hw _ (List.mem_of_getElem? (i := 41) rfl)) (hw _ (List.mem_of_getElem? (i := 38) rfl)) (hw _ (List.mem_of_getElem? (i := 40) rfl)) (by decide) F74 (argsL := []) (rest := []) (rm8 l Z a0 hw [] b34 (((0 : Int64) + (1 : Int64)) + (1 : Int64)) T69.heap n0 Z69 Fa69) (W := 0) (by decide) (by decide) rfl (g := (mkF m 169 #[.val (.long j0), .second, .val (.long j1), .second, .val (.long j2), .second, .val (.long j3), .second, .val (.int u4), .val (.int u5), .val (.ref b2), .val (.ref b8), .val (.ref b13), .val (.ref b22), .val (.ref b34), .val (.int (1 : Int32)), .val (.long (j0 + j1)), .second] [(.ref b34)])) rfl (by rw [hml]; rfl) (lenOf pd_2 rfl) rfl (by show 2 * 0 + _ ≤ _; exact Nat.le_of_eq rfl) (hb hby at_169) (Nat.le_of_ble_eq_true rfl) (Nat.le_of_ble_eq_true rfl)
  obtain ⟨rfl, N73q, e73⟩ := hQ73
  have N73 := Fr.app N69 N73q
  refine OFin.go st73 ?_
  show OFin p e below _ (T73.setTop (mkF m 172 #[.val (.long j0), .second, .val (.long j1), .second, .val (.long j2), .second, .val (.long j3), .second, .val (.int u4), .val (.int u5), .val (.ref b2), .val (.ref b8), .val (.ref b13), .val (.ref b22), .val (.ref b34), .val (.int (1 : Int32)), .val (.long (j0 + j1)), .second] [(.long (((0 : Int64) + (1 : Int64)) + (1 : Int64)))]))
  have S75 : ∀ t, Steps p.tables e below (T73.setTop (mkF m 176 #[.val (.long j0), .second, .val (.long j1), .second, .val (.long j2), .second, .val (.long j3), .second, .val (.int u4), .val (.int u5), .val (.ref b2), .val (.ref b8), .val (.ref b13), .val (.ref b22), .val (.ref b34), .val (.int (1 : Int32)), .val (.long (j0 + j1)), .second] [(.int (lcmpW (((0 : Int64) + (1 : Int64)) + (1 : Int64)) (2 : Int64)))])) t → Steps p.tables e below (T73.setTop (mkF m 172 #[.val (.long j0), .second, .val (.long j1), .second, .val (.long j2), .second, .val (.long j3), .second, .val (.int u4), .val (.int u5), .val (.ref b2), .val (.ref b8), .val (.ref b13), .val (.ref b22), .val (.ref b34), .val (.int (1 : Int32)), .val (.long (j0 + j1)), .second] [(.long (((0 : Int64) + (1 : Int64)) + (1 : Int64)))])) t := by
    intro t k
    show Steps p.tables e below (T73.setTop (mkF m 172 #[.val (.long j0), .second, .val (.long j1), .second, .val (.long j2), .second, .val (.long j3), .second, .val (.int u4), .val (.int u5), .val (.ref b2), .val (.ref b8), .val (.ref b13), .val (.ref b22), .val (.ref b34), .val (.int (1 : Int32)), .val (.long (j0 + j1)), .second] [(.long (((0 : Int64) + (1 : Int64)) + (1 : Int64)))])) t
    refine X73.ldc2Long hx hown (mvT hZ (hw _ (List.mem_of_getElem? (i := 56) rfl))) (g := (mkF m 172 #[.val (.long j0), .second, .val (.long j1), .second, .val (.long j2), .second, .val (.long j3), .second, .val (.int u4), .val (.int u5), .val (.ref b2), .val (.ref b8), .val (.ref b13), .val (.ref b22), .val (.ref b34), .val (.int (1 : Int32)), .val (.long (j0 + j1)), .second] [(.long (((0 : Int64) + (1 : Int64)) + (1 : Int64)))])) rfl (hb hby at_172) _ ?_
    show Steps p.tables e below (T73.setTop (mkF m 175 #[.val (.long j0), .second, .val (.long j1), .second, .val (.long j2), .second, .val (.long j3), .second, .val (.int u4), .val (.int u5), .val (.ref b2), .val (.ref b8), .val (.ref b13), .val (.ref b22), .val (.ref b34), .val (.int (1 : Int32)), .val (.long (j0 + j1)), .second] [(.long (2 : Int64)), (.long (((0 : Int64) + (1 : Int64)) + (1 : Int64)))])) t
    refine XS.lcmp X73.here hx rfl (hb hby at_175) rfl ?_
    exact k
  refine OFin.go S75 ?_
  have S76 : ∀ t, Steps p.tables e below (T73.setTop (mkF m 179 #[.val (.long j0), .second, .val (.long j1), .second, .val (.long j2), .second, .val (.long j3), .second, .val (.int u4), .val (.int u5), .val (.ref b2), .val (.ref b8), .val (.ref b13), .val (.ref b22), .val (.ref b34), .val (.int (1 : Int32)), .val (.long (j0 + j1)), .second] [])) t → Steps p.tables e below (T73.setTop (mkF m 176 #[.val (.long j0), .second, .val (.long j1), .second, .val (.long j2), .second, .val (.long j3), .second, .val (.int u4), .val (.int u5), .val (.ref b2), .val (.ref b8), .val (.ref b13), .val (.ref b22), .val (.ref b34), .val (.int (1 : Int32)), .val (.long (j0 + j1)), .second] [(.int (lcmpW (((0 : Int64) + (1 : Int64)) + (1 : Int64)) (2 : Int64)))])) t := by
    intro t k
    show Steps p.tables e below (T73.setTop (mkF m 176 #[.val (.long j0), .second, .val (.long j1), .second, .val (.long j2), .second, .val (.long j3), .second, .val (.int u4), .val (.int u5), .val (.ref b2), .val (.ref b8), .val (.ref b13), .val (.ref b22), .val (.ref b34), .val (.int (1 : Int32)), .val (.long (j0 + j1)), .second] [(.int (lcmpW (((0 : Int64) + (1 : Int64)) + (1 : Int64)) (2 : Int64)))])) t
    refine XS.ifNo X73.here hx rfl (hb hby at_176) rfl (lc_ne_f (own_l176 j0 j1 j2 j3 )) ?_
    exact k
  refine OFin.go S76 ?_
  have S77 : ∀ t, Steps p.tables e below (T73.setTop (mkF m 181 #[.val (.long j0), .second, .val (.long j1), .second, .val (.long j2), .second, .val (.long j3), .second, .val (.int u4), .val (.int u5), .val (.ref b2), .val (.ref b8), .val (.ref b13), .val (.ref b22), .val (.ref b34), .val (.int (1 : Int32)), .val (.long (j0 + j1)), .second] [(.ref b34)])) t → Steps p.tables e below (T73.setTop (mkF m 179 #[.val (.long j0), .second, .val (.long j1), .second, .val (.long j2), .second, .val (.long j3), .second, .val (.int u4), .val (.int u5), .val (.ref b2), .val (.ref b8), .val (.ref b13), .val (.ref b22), .val (.ref b34), .val (.int (1 : Int32)), .val (.long (j0 + j1)), .second] [])) t := by
    intro t k
    show Steps p.tables e below (T73.setTop (mkF m 179 #[.val (.long j0), .second, .val (.long j1), .second, .val (.long j2), .second, .val (.long j3), .second, .val (.int u4), .val (.int u5), .val (.ref b2), .val (.ref b8), .val (.ref b13), .val (.ref b22), .val (.ref b34), .val (.int (1 : Int32)), .val (.long (j0 + j1)), .second] [])) t
    refine XS.aload X73.here hx rfl (hb hby at_179) rfl rfl ?_
    exact k
  refine OFin.go S77 ?_
  obtain ⟨_, T78, Lc78, X78, hQ78, st78⟩ := virtQ X73 hx hZ (y := (⟨"com/example/tickwright/tickwright/io/ReplaySummary", "filledShares", "()J"⟩ : MethodName)) hown (hw _ (List.mem_of_getElem? (i := 44) rfl)) (hw _ (List.mem_of_getElem? (i := 46) rfl)) (hw _ (List.mem_of_getElem? (i := 32) rfl)) (hw _ (List.mem_of_getElem? (i := 48) rfl)) (hw _ (List.mem_of_getElem? (i := 45) rfl)) (hw _ (List.mem_of_getElem? (i := 47) rfl)) (by decide) F74 (argsL := []) (rest := []) (rm9 l Z a0 hw [] b34 (((0 : Int64) + j0) + j1) T69.heap n0 Z69 Fb69) (W := 0) (by decide) (by decide) e73 (g := (mkF m 181 #[.val (.long j0), .second, .val (.long j1), .second, .val (.long j2), .second, .val (.long j3), .second, .val (.int u4), .val (.int u5), .val (.ref b2), .val (.ref b8), .val (.ref b13), .val (.ref b22), .val (.ref b34), .val (.int (1 : Int32)), .val (.long (j0 + j1)), .second] [(.ref b34)])) rfl (by rw [hml]; rfl) (lenOf pd_2 rfl) rfl (by show 2 * 0 + _ ≤ _; exact Nat.le_of_eq rfl) (hb hby at_181) (Nat.le_of_ble_eq_true rfl) (Nat.le_of_ble_eq_true rfl)
  obtain ⟨rfl, N78q, e78⟩ := hQ78
  have N78 := Fr.app N73 N78q
  refine OFin.go st78 ?_
  show OFin p e below _ (T78.setTop (mkF m 184 #[.val (.long j0), .second, .val (.long j1), .second, .val (.long j2), .second, .val (.long j3), .second, .val (.int u4), .val (.int u5), .val (.ref b2), .val (.ref b8), .val (.ref b13), .val (.ref b22), .val (.ref b34), .val (.int (1 : Int32)), .val (.long (j0 + j1)), .second] [(.long (((0 : Int64) + j0) + j1))]))
  have S79 : ∀ t, Steps p.tables e below (T78.setTop (mkF m 187 #[.val (.long j0), .second, .val (.long j1), .second, .val (.long j2), .second, .val (.long j3), .second, .val (.int u4), .val (.int u5), .val (.ref b2), .val (.ref b8), .val (.ref b13), .val (.ref b22), .val (.ref b34), .val (.int (1 : Int32)), .val (.long (j0 + j1)), .second] [(.int (lcmpW (((0 : Int64) + j0) + j1) (j0 + j1)))])) t → Steps p.tables e below (T78.setTop (mkF m 184 #[.val (.long j0), .second, .val (.long j1), .second, .val (.long j2), .second, .val (.long j3), .second, .val (.int u4), .val (.int u5), .val (.ref b2), .val (.ref b8), .val (.ref b13), .val (.ref b22), .val (.ref b34), .val (.int (1 : Int32)), .val (.long (j0 + j1)), .second] [(.long (((0 : Int64) + j0) + j1))])) t := by
    intro t k
    show Steps p.tables e below (T78.setTop (mkF m 184 #[.val (.long j0), .second, .val (.long j1), .second, .val (.long j2), .second, .val (.long j3), .second, .val (.int u4), .val (.int u5), .val (.ref b2), .val (.ref b8), .val (.ref b13), .val (.ref b22), .val (.ref b34), .val (.int (1 : Int32)), .val (.long (j0 + j1)), .second] [(.long (((0 : Int64) + j0) + j1))])) t
    refine XS.lload X78.here hx rfl (hb hby at_184) rfl ?_
    show Steps p.tables e below (T78.setTop (mkF m 186 #[.val (.long j0), .second, .val (.long j1), .second, .val (.long j2), .second, .val (.long j3), .second, .val (.int u4), .val (.int u5), .val (.ref b2), .val (.ref b8), .val (.ref b13), .val (.ref b22), .val (.ref b34), .val (.int (1 : Int32)), .val (.long (j0 + j1)), .second] [(.long (j0 + j1)), (.long (((0 : Int64) + j0) + j1))])) t
    refine XS.lcmp X78.here hx rfl (hb hby at_186) rfl ?_
    exact k
  refine OFin.go S79 ?_
  have S80 : ∀ t, Steps p.tables e below (T78.setTop (mkF m 190 #[.val (.long j0), .second, .val (.long j1), .second, .val (.long j2), .second, .val (.long j3), .second, .val (.int u4), .val (.int u5), .val (.ref b2), .val (.ref b8), .val (.ref b13), .val (.ref b22), .val (.ref b34), .val (.int (1 : Int32)), .val (.long (j0 + j1)), .second] [])) t → Steps p.tables e below (T78.setTop (mkF m 187 #[.val (.long j0), .second, .val (.long j1), .second, .val (.long j2), .second, .val (.long j3), .second, .val (.int u4), .val (.int u5), .val (.ref b2), .val (.ref b8), .val (.ref b13), .val (.ref b22), .val (.ref b34), .val (.int (1 : Int32)), .val (.long (j0 + j1)), .second] [(.int (lcmpW (((0 : Int64) + j0) + j1) (j0 + j1)))])) t := by
    intro t k
    show Steps p.tables e below (T78.setTop (mkF m 187 #[.val (.long j0), .second, .val (.long j1), .second, .val (.long j2), .second, .val (.long j3), .second, .val (.int u4), .val (.int u5), .val (.ref b2), .val (.ref b8), .val (.ref b13), .val (.ref b22), .val (.ref b34), .val (.int (1 : Int32)), .val (.long (j0 + j1)), .second] [(.int (lcmpW (((0 : Int64) + j0) + j1) (j0 + j1)))])) t
    refine XS.ifNo X78.here hx rfl (hb hby at_187) rfl (lc_ne_f (own_l187 j0 j1 j2 j3 )) ?_
    exact k
  refine OFin.go S80 ?_
  have S81 : ∀ t, Steps p.tables e below (T78.setTop (mkF m 199 #[.val (.long j0), .second, .val (.long j1), .second, .val (.long j2), .second, .val (.long j3), .second, .val (.int u4), .val (.int u5), .val (.ref b2), .val (.ref b8), .val (.ref b13), .val (.ref b22), .val (.ref b34), .val (.int (1 : Int32)), .val (.long (j0 + j1)), .second] [(.int (1 : Int32))])) t → Steps p.tables e below (T78.setTop (mkF m 190 #[.val (.long j0), .second, .val (.long j1), .second, .val (.long j2), .second, .val (.long j3), .second, .val (.int u4), .val (.int u5), .val (.ref b2), .val (.ref b8), .val (.ref b13), .val (.ref b22), .val (.ref b34), .val (.int (1 : Int32)), .val (.long (j0 + j1)), .second] [])) t := by
    intro t k
    show Steps p.tables e below (T78.setTop (mkF m 190 #[.val (.long j0), .second, .val (.long j1), .second, .val (.long j2), .second, .val (.long j3), .second, .val (.int u4), .val (.int u5), .val (.ref b2), .val (.ref b8), .val (.ref b13), .val (.ref b22), .val (.ref b34), .val (.int (1 : Int32)), .val (.long (j0 + j1)), .second] [])) t
    refine XS.iconst X78.here hx rfl (hb hby at_190) ?_
    show Steps p.tables e below (T78.setTop (mkF m 191 #[.val (.long j0), .second, .val (.long j1), .second, .val (.long j2), .second, .val (.long j3), .second, .val (.int u4), .val (.int u5), .val (.ref b2), .val (.ref b8), .val (.ref b13), .val (.ref b22), .val (.ref b34), .val (.int (1 : Int32)), .val (.long (j0 + j1)), .second] [(.int (1 : Int32))])) t
    refine XS.goto X78.here hx rfl (pc0 := 191) (pc' := 195) rfl (hb hby at_191) (by decide) (by decide) ?_
    show Steps p.tables e below (T78.setTop (mkF m 195 #[.val (.long j0), .second, .val (.long j1), .second, .val (.long j2), .second, .val (.long j3), .second, .val (.int u4), .val (.int u5), .val (.ref b2), .val (.ref b8), .val (.ref b13), .val (.ref b22), .val (.ref b34), .val (.int (1 : Int32)), .val (.long (j0 + j1)), .second] [(.int (1 : Int32))])) t
    refine XS.istore X78.here hx rfl (hb hby at_195) rfl (l' := #[.val (.long j0), .second, .val (.long j1), .second, .val (.long j2), .second, .val (.long j3), .second, .val (.int u4), .val (.int u5), .val (.ref b2), .val (.ref b8), .val (.ref b13), .val (.ref b22), .val (.ref b34), .val (.int (1 : Int32)), .val (.long (j0 + j1)), .second]) rfl ?_
    show Steps p.tables e below (T78.setTop (mkF m 197 #[.val (.long j0), .second, .val (.long j1), .second, .val (.long j2), .second, .val (.long j3), .second, .val (.int u4), .val (.int u5), .val (.ref b2), .val (.ref b8), .val (.ref b13), .val (.ref b22), .val (.ref b34), .val (.int (1 : Int32)), .val (.long (j0 + j1)), .second] [])) t
    refine XS.iload X78.here hx rfl (hb hby at_197) rfl ?_
    exact k
  refine OFin.go S81 ?_
  exact finZ X78 hx Bd.notSynchronized (t := .boolean) Bd.returns (by simp) (hb hby at_199) rfl (by decide) (by decide) (⟨congrArg (fun z => some (Value.int z)) (rfl : (1 : Int32) = (1 : Int32)), N78⟩)
set_option maxRecDepth 65536 in
set_option maxHeartbeats 40000000 in
theorem comes_1 {Post : Tables → Env → Array Value → State → Outcome → State → Prop} (hpost : ∀ tb e args s v u, (limb_1_1.after args s (.returned v) u = true ∧ limb_1_2.after args s (.returned v) u = true ∧ True) → FrameEnd s (.returned v) u (Jvm.fieldLocs frame_1_writes args s ++ Jvm.arrayLocs frame_1_arrays args s ++ Jvm.staticLocs frame_1_statics s) 24 128 → Post tb e args s (.returned v) u) :
    ArmFor flags0 classFile x code maxLocals ret World_1 tables_1 room_1 Calls_1 rest_1 Pre_1 Post := by
  intro l hfl _ _ p e ha hc hk s m args below hf hA hF happ hP
  obtain ⟨hcalls, hrest, hpre⟩ := hP
  obtain ⟨-, -, -, hnamed, -, -, -, hat⟩ := (Spec.applies_iff hf).mp happ
  obtain ⟨hg, hn⟩ := and_e (Cond.before_iff.mp (show (Jvm.Cond.and given_1 narrow_1).before args s = true from hpre))
  obtain ⟨gg2, gg3⟩ := and_e hg
  obtain ⟨gg4, gg5⟩ := and_e gg3
  obtain ⟨gg6, gg7⟩ := and_e gg5
  obtain ⟨gg8, gg9⟩ := and_e gg7
  obtain ⟨gg10, gg11⟩ := and_e gg9
  obtain ⟨gg12, gg13⟩ := and_e gg11
  obtain ⟨w0, w1, w2, w3, w4, w5, rfl⟩ : ∃ w0 w1 w2 w3 w4 w5 : Value, args = #[w0, w1, w2, w3, w4, w5] := by
    have hs : args.size = 6 := by simpa [Cond.value, given_1] using gg2
    obtain ⟨L⟩ := args
    match L, hs with
    | [w0, w1, w2, w3, w4, w5], _ => exact ⟨w0, w1, w2, w3, w4, w5, rfl⟩
  have hw := fun d (hd : d ∈ tables_1) => atoms_spec (ws := Jvm.Cond.code x code maxLocals ret :: tables_1) hat d (List.mem_cons_of_mem _ hd)
  have hfit : Fit s := fun {y c} hc i hi => by
    obtain ⟨ha, rfl⟩ := Array.getElem?_eq_some_iff.mp hc
    have q := List.all_eq_true.mp ((Array.all_eq_true_iff_forall_mem.mp hF) _ (Array.getElem_mem ha)) i (List.mem_range.mpr hi)
    simpa [Array.getElem?_eq_getElem hi] using q
  obtain ⟨hsets, hown0⟩ := atoms_of _ (rest_1_c_eq ▸ (show rest_1_c.before _ s = true from hrest))
  have hr0 := Cond.before_iff.mp hown0
  obtain ⟨i0, ei0⟩ := isL_v gg4
  obtain rfl : w0 = (.long i0) := Option.some.inj ei0
  obtain ⟨i1, ei1⟩ := isL_v gg6
  obtain rfl : w1 = (.long i1) := Option.some.inj ei1
  obtain ⟨i2, ei2⟩ := isL_v gg8
  obtain rfl : w2 = (.long i2) := Option.some.inj ei2
  obtain ⟨i3, ei3⟩ := isL_v gg10
  obtain rfl : w3 = (.long i3) := Option.some.inj ei3
  obtain ⟨i4, ei4⟩ := is_v gg12
  obtain rfl : w4 = (.int i4) := Option.some.inj ei4
  obtain ⟨i5, ei5⟩ := is_v gg13
  obtain rfl : w5 = (.int i5) := Option.some.inj ei5
  have n3 := not_v (Cond.before_iff.mp (hsets _ (List.mem_of_getElem? (i := 2) rfl)))
  obtain ⟨g1, eg1⟩ := is_v (Cond.before_iff.mp (hsets _ (List.mem_of_getElem? (i := 1) rfl)))
  have S8 : Sta s s.heap "java/lang/String" "COMPACT_STRINGS" "Z" (.int g1) := Sta.start eg1 (Or.inl (hsets _ (List.mem_of_getElem? (i := 0) rfl)))
  have c9 : ¬ (g1 = (0 : Int32)) := gotF (Cond.eq_ints eg1 (Term.int_eval (0))) n3
  obtain ⟨n, o, h1, h2, h3, _, L, rfl, ⟨rfl, N⟩, hq⟩ := rm0 l s _ hw tables_1 i0 i1 i2 i3 i4 i5 g1 s.heap s.heap.size (Nat.le_refl _) S8 c9 (Old.start s) p e ha hc hk s m _ below hf ((Spec.applies_iff_loose hf).mp happ).1 ⟨rfl, State.Warmed39.refl s, rfl⟩ trivial
  refine ⟨n, _, h1, h2, h3, hpost _ _ _ _ _ _ ⟨Cond.after_iff.mpr rfl, Cond.after_iff.mpr (eq_i res_at (Term.int_eval (1)) rfl), trivial⟩ ⟨hq.1, hq.2.1, (hq.2.2.sift fun y hy => Or.inr (N y hy)).mono (by decide) (by decide)⟩⟩
theorem main_1_1 : Claimed_1_1 := comes_1 fun _ _ _ _ _ _ h hF => ⟨h.1, hF⟩
theorem main_1_2 : Claimed_1_2 := comes_1 fun _ _ _ _ _ _ h hF => ⟨h.2.1, hF⟩
end Jvm.Pilot.@@N@@
namespace Jvm.Pilot.@@N@@
open Jvm Jvm.ClassFile Sem Op Lib Jvm.Free Jvm.Stand Jvm.Pilot.@@N@@.Jvm.D
/-! MADE BY PROGRAM (witnessworld.py) out of the Statement's table words and the real class files: 21 classes; the members and pool entries that the words name. The judged class is class 1, her method 1. -/
namespace start1
open Jvm.ClassFile
def u (s : String) : CpInfo := .utf8 (stringToUtf16 s)
/-- a pool by its gaps: so many unusable entries, then the entry; so many at the end -/
def gap : Nat → List CpInfo → List CpInfo
  | 0, r => r
  | n + 1, r => .unusable :: gap n r
def poolList (es : List (Nat × CpInfo)) (last : Nat) : List CpInfo := es.foldr (fun e r => gap e.1 (e.2 :: r)) (gap last [])
def pool (es : List (Nat × CpInfo)) (last : Nat) : Array CpInfo := ⟨poolList es last⟩
def fileOf (pool : Array CpInfo) (this : Nat) (attrs : Array Attribute := #[]) (ms : Array MethodInfo := #[]) (fl : Nat := 33) (sup : Nat := 0) (ifs : Array Nat := #[]) (fds : Array FieldInfo := #[]) : ClassFile where
  minorVersion := 0
  majorVersion := 65
  constantPool := pool
  accessFlags := fl
  thisClass := this
  superClass := sup
  interfaces := ifs
  fields := fds
  methods := ms
  attributes := attrs
def plain (name : String) (sup : Option ClassId) : Class where
  name := name
  kind := .ordinary
  loader := none
  accessFlags := 33
  super := sup
  interfaces := #[]
  cf := none
  fields := #[]
  methods := #[]
  instanceTypes := #[]
  staticTypes := #[]
  resolved := #[]
  callSites := []
  init := .initialized
  statics := none
  mirror := none

def pool0 : Array CpInfo := pool [(5, u "<init>"), (0, u "()V"), (1, .class_ 10), (1, u "java/lang/Object")] 113

def k0c0 : Code := { maxStack := 0, maxLocals := 1, code := object_method_1_code, exceptionTable := #[], attributes := #[] }
def k0m0 : Method := { name := "<init>", desc := "()V", sig := { parameters := [], returnType := none }, accessFlags := 1, code := some k0c0 }
/-- java/lang/Object -/
def k0 : Class := { plain "java/lang/Object" none with
  accessFlags := 33
  interfaces := #[]
  cf := some (fileOf pool0 8 #[] #[{ accessFlags := 1, nameIndex := 5, descriptorIndex := 6, attributes := #[] }] 33 0 #[] #[])
  fields := #[]
  methods := #[k0m0]
  instanceTypes := #[]
  staticTypes := #[]
  resolved := Array.replicate 124 none
  statics := none }

def pool1 : Array CpInfo := pool [(2, .class_ 4), (0, .nameAndType 5 6), (0, u "java/lang/Object"), (0, u "<init>"), (0, u "()V"), (0, .class_ 8), (0, u "java/lang/String"), (0, .methodref 7 10), (0, .nameAndType 5 11), (0, u "([C)V"), (0, .class_ 13), (0, u "com/example/tickwright/tickwright/io/ReplaySummary"), (0, .methodref 12 3), (0, .methodref 12 16), (0, .nameAndType 17 18), (0, u "fills"), (0, u "()J"), (0, .methodref 12 20), (0, .nameAndType 21 18), (0, u "filledShares"), (0, .methodref 12 23), (0, .nameAndType 24 25), (0, u "fill"), (0, u "(Ljava/lang/String;Ljava/lang/String;JJ)V"), (0, .long 2), (1, .class_ 29), (0, u "com/example/tickwright/tickwright/io/ReplaySummaryFillPinLaw"), (2, u "law"), (0, u "(JJJJII)Z")] 5

def k1m0 : Method := { name := "<init>", desc := "()V", sig := { parameters := [], returnType := none }, accessFlags := 1, code := none }
def k1c1 : Code := { maxStack := 7, maxLocals := 18, code := code, exceptionTable := #[], attributes := #[] }
def k1m1 : Method := { name := "law", desc := "(JJJJII)Z", sig := { parameters := [.long, .long, .long, .long, .int, .int], returnType := some .boolean }, accessFlags := 9, code := some k1c1 }
/-- com/example/tickwright/tickwright/io/ReplaySummaryFillPinLaw -/
def k1 : Class := { plain "com/example/tickwright/tickwright/io/ReplaySummaryFillPinLaw" (some 0) with
  accessFlags := 49
  interfaces := #[]
  cf := some (fileOf pool1 28 #[] #[{ accessFlags := 1, nameIndex := 5, descriptorIndex := 6, attributes := #[] }, { accessFlags := 9, nameIndex := 32, descriptorIndex := 33, attributes := #[] }] 49 2 #[] #[])
  fields := #[]
  methods := #[k1m0, k1m1]
  instanceTypes := #[]
  staticTypes := #[]
  resolved := Array.replicate 39 none
  statics := none }

def pool2 : Array CpInfo := pool [(1, .class_ 2), (0, u "java/io/Serializable"), (0, .class_ 4), (0, u "java/lang/Object")] 2

/-- java/io/Serializable -/
def k2 : Class := { plain "java/io/Serializable" (some 0) with
  accessFlags := 1537
  interfaces := #[]
  cf := some (fileOf pool2 1 #[] #[] 1537 3 #[] #[])
  fields := #[]
  methods := #[]
  instanceTypes := #[]
  staticTypes := #[]
  resolved := Array.replicate 7 none
  statics := none }

def pool3 : Array CpInfo := pool [(1, .class_ 2), (0, u "java/lang/Comparable"), (0, .class_ 4), (0, u "java/lang/Object")] 7

/-- java/lang/Comparable -/
def k3 : Class := { plain "java/lang/Comparable" (some 0) with
  accessFlags := 1537
  interfaces := #[]
  cf := some (fileOf pool3 1 #[] #[] 1537 3 #[] #[])
  fields := #[]
  methods := #[]
  instanceTypes := #[]
  staticTypes := #[]
  resolved := Array.replicate 12 none
  statics := none }

def pool4 : Array CpInfo := pool [(2, .class_ 4), (1, u "java/lang/CharSequence"), (42, .class_ 48), (0, u "java/lang/CharSequence$1CodePointIterator"), (10, .class_ 60), (0, u "java/lang/CharSequence$1CharIterator"), (5, .class_ 67), (0, u "java/lang/Object")] 63

/-- java/lang/CharSequence -/
def k4 : Class := { plain "java/lang/CharSequence" (some 0) with
  accessFlags := 1537
  interfaces := #[]
  cf := some (fileOf pool4 2 #[.nestMembers #[47, 59]] #[] 1537 66 #[] #[])
  fields := #[]
  methods := #[]
  instanceTypes := #[]
  staticTypes := #[]
  resolved := Array.replicate 131 none
  statics := none }

def pool5 : Array CpInfo := pool [(1, .class_ 2), (0, u "java/lang/constant/Constable"), (0, .class_ 4), (0, u "java/lang/Object")] 6

/-- java/lang/constant/Constable -/
def k5 : Class := { plain "java/lang/constant/Constable" (some 0) with
  accessFlags := 1537
  interfaces := #[]
  cf := some (fileOf pool5 1 #[] #[] 1537 3 #[] #[])
  fields := #[]
  methods := #[]
  instanceTypes := #[]
  staticTypes := #[]
  resolved := Array.replicate 11 none
  statics := none }

def pool6 : Array CpInfo := pool [(1, .class_ 2), (0, u "java/lang/constant/ConstantDesc"), (0, .class_ 4), (0, u "java/lang/Object")] 32

/-- java/lang/constant/ConstantDesc -/
def k6 : Class := { plain "java/lang/constant/ConstantDesc" (some 0) with
  accessFlags := 1537
  interfaces := #[]
  cf := some (fileOf pool6 1 #[] #[] 1537 3 #[] #[])
  fields := #[]
  methods := #[]
  instanceTypes := #[]
  staticTypes := #[]
  resolved := Array.replicate 37 none
  statics := none }

def pool7 : Array CpInfo := pool [(1, .methodref 2 3), (0, .class_ 4), (0, .nameAndType 5 6), (0, u "java/lang/Object"), (0, u "<init>"), (0, u "()V"), (2, .fieldref 10 11), (0, .class_ 12), (0, .nameAndType 13 14), (0, u "java/lang/String"), (0, u "value"), (0, u "[B"), (0, .fieldref 10 16), (0, .nameAndType 17 18), (0, u "coder"), (0, u "B"), (2, u "hash"), (0, u "I"), (2, u "hashIsZero"), (0, u "Z"), (0, .methodref 10 28), (0, .nameAndType 5 29), (0, u "([CIILjava/lang/Void;)V"), (8, .fieldref 10 39), (0, .nameAndType 40 26), (0, u "COMPACT_STRINGS"), (1, .class_ 44), (1, u "java/lang/StringUTF16"), (0, u "compress"), (1, .methodref 42 48), (0, .nameAndType 49 50), (0, u "coderFromArrayLen"), (0, u "([BI)B"), (126, .methodref 42 178), (0, .nameAndType 45 179), (0, u "([CII)[B"), (395, .class_ 576), (0, u "java/lang/CharSequence"), (22, u "CASE_INSENSITIVE_ORDER"), (0, u "Ljava/util/Comparator;"), (409, u "([C)V"), (90, u "serialPersistentFields"), (0, u "[Ljava/io/ObjectStreamField;"), (0, .class_ 1104), (0, u "java/lang/String$CaseInsensitiveComparator"), (1, .class_ 1107), (0, u "java/io/Serializable"), (0, .class_ 1109), (0, u "java/lang/Comparable"), (0, .class_ 1111), (0, u "java/lang/constant/Constable"), (0, .class_ 1113), (0, u "java/lang/constant/ConstantDesc"), (2, u "serialVersionUID"), (0, u "J"), (3, u "REPL"), (0, u "C"), (2, u "LATIN1"), (1, u "UTF16")] 323

def k7m0 : Method := { name := "<init>", desc := "()V", sig := { parameters := [], returnType := none }, accessFlags := 1, code := none }
def k7c1 : Code := { maxStack := 5, maxLocals := 2, code := jdk_42_method_3_code, exceptionTable := #[], attributes := #[] }
def k7m1 : Method := { name := "<init>", desc := "([C)V", sig := { parameters := [(.array .char)], returnType := none }, accessFlags := 1, code := some k7c1 }
def k7c2 : Code := { maxStack := 4, maxLocals := 6, code := jdk_42_method_149_code, exceptionTable := #[], attributes := #[] }
def k7m2 : Method := { name := "<init>", desc := "([CIILjava/lang/Void;)V", sig := { parameters := [(.array .char), .int, .int, (.object "java/lang/Void")], returnType := none }, accessFlags := 2, code := some k7c2 }
/-- java/lang/String -/
def k7 : Class := { plain "java/lang/String" (some 0) with
  accessFlags := 49
  interfaces := #[2, 3, 4, 5, 6]
  cf := some (fileOf pool7 10 #[.nestMembers #[1103]] #[{ accessFlags := 1, nameIndex := 5, descriptorIndex := 6, attributes := #[] }, { accessFlags := 1, nameIndex := 5, descriptorIndex := 1010, attributes := #[] }, { accessFlags := 2, nameIndex := 5, descriptorIndex := 29, attributes := #[] }] 49 2 #[1106, 1108, 575, 1110, 1112] #[{ accessFlags := 18, nameIndex := 13, descriptorIndex := 14, attributes := #[] }, { accessFlags := 18, nameIndex := 17, descriptorIndex := 18, attributes := #[] }, { accessFlags := 2, nameIndex := 21, descriptorIndex := 22, attributes := #[] }, { accessFlags := 2, nameIndex := 25, descriptorIndex := 26, attributes := #[] }, { accessFlags := 26, nameIndex := 1116, descriptorIndex := 1117, attributes := #[] }, { accessFlags := 24, nameIndex := 40, descriptorIndex := 26, attributes := #[] }, { accessFlags := 26, nameIndex := 1101, descriptorIndex := 1102, attributes := #[] }, { accessFlags := 26, nameIndex := 1121, descriptorIndex := 1122, attributes := #[] }, { accessFlags := 25, nameIndex := 599, descriptorIndex := 600, attributes := #[] }, { accessFlags := 24, nameIndex := 1125, descriptorIndex := 18, attributes := #[] }, { accessFlags := 24, nameIndex := 1127, descriptorIndex := 18, attributes := #[] }])
  fields := #[{ name := "value", type := (.array .byte), accessFlags := 18, slot := 0, constantValue := 0 }, { name := "coder", type := .byte, accessFlags := 18, slot := 1, constantValue := 0 }, { name := "hash", type := .int, accessFlags := 2, slot := 2, constantValue := 0 }, { name := "hashIsZero", type := .boolean, accessFlags := 2, slot := 3, constantValue := 0 }, { name := "serialVersionUID", type := .long, accessFlags := 26, slot := 0, constantValue := 0 }, { name := "COMPACT_STRINGS", type := .boolean, accessFlags := 24, slot := 1, constantValue := 0 }, { name := "serialPersistentFields", type := (.array (.object "java/io/ObjectStreamField")), accessFlags := 26, slot := 2, constantValue := 0 }, { name := "REPL", type := .char, accessFlags := 26, slot := 3, constantValue := 0 }, { name := "CASE_INSENSITIVE_ORDER", type := (.object "java/util/Comparator"), accessFlags := 25, slot := 4, constantValue := 0 }, { name := "LATIN1", type := .byte, accessFlags := 24, slot := 5, constantValue := 0 }, { name := "UTF16", type := .byte, accessFlags := 24, slot := 6, constantValue := 0 }]
  methods := #[k7m0, k7m1, k7m2]
  instanceTypes := #[(.array .byte), .byte, .int, .boolean]
  staticTypes := #[.long, .boolean, (.array (.object "java/io/ObjectStreamField")), .char, (.object "java/util/Comparator"), .byte, .byte]
  resolved := Array.replicate 1451 none
  statics := some 0 }

def pool8 : Array CpInfo := pool [(6, .class_ 8), (1, u "java/lang/Object"), (0, u "<init>"), (0, u "()V"), (1, .class_ 14), (1, u "java/lang/StringUTF16"), (31, u "$assertionsDisabled"), (0, u "Z"), (13, u "HI_BYTE_SHIFT"), (0, u "I"), (2, u "LO_BYTE_SHIFT"), (49, .methodref 12 116), (0, .nameAndType 117 118), (0, u "compress"), (0, u "([CI[BII)I"), (3, u "([CII)[B"), (138, u "coderFromArrayLen"), (0, u "([BI)B"), (106, .class_ 371), (1, u "java/lang/StringUTF16$LinesSpliterator"), (58, u "MAX_LENGTH"), (196, .class_ 628), (0, u "java/lang/StringUTF16$CodePointsSpliterator"), (0, .class_ 630), (0, u "java/lang/StringUTF16$CharsSpliterator")] 4

def k8m0 : Method := { name := "<init>", desc := "()V", sig := { parameters := [], returnType := none }, accessFlags := 0, code := none }
def k8c1 : Code := { maxStack := 2, maxLocals := 2, code := jdk_52_method_15_code, exceptionTable := #[], attributes := #[] }
def k8m1 : Method := { name := "coderFromArrayLen", desc := "([BI)B", sig := { parameters := [(.array .byte), .int], returnType := some .byte }, accessFlags := 8, code := some k8c1 }
def k8c2 : Code := { maxStack := 5, maxLocals := 6, code := jdk_52_method_16_code, exceptionTable := #[], attributes := #[] }
def k8m2 : Method := { name := "compress", desc := "([CII)[B", sig := { parameters := [(.array .char), .int, .int], returnType := some (.array .byte) }, accessFlags := 9, code := some k8c2 }
def k8c3 : Code := { maxStack := 3, maxLocals := 7, code := jdk_52_method_21_code, exceptionTable := #[], attributes := #[] }
def k8m3 : Method := { name := "compress", desc := "([CI[BII)I", sig := { parameters := [(.array .char), .int, (.array .byte), .int, .int], returnType := some .int }, accessFlags := 9, code := some k8c3 }
/-- java/lang/StringUTF16 -/
def k8 : Class := { plain "java/lang/StringUTF16" (some 0) with
  accessFlags := 48
  interfaces := #[]
  cf := some (fileOf pool8 12 #[.nestMembers #[627, 629, 369]] #[{ accessFlags := 0, nameIndex := 9, descriptorIndex := 10, attributes := #[] }, { accessFlags := 8, nameIndex := 261, descriptorIndex := 262, attributes := #[] }, { accessFlags := 9, nameIndex := 117, descriptorIndex := 122, attributes := #[] }, { accessFlags := 9, nameIndex := 117, descriptorIndex := 118, attributes := #[] }] 48 6 #[] #[{ accessFlags := 26, nameIndex := 61, descriptorIndex := 62, attributes := #[] }, { accessFlags := 26, nameIndex := 65, descriptorIndex := 62, attributes := #[] }, { accessFlags := 24, nameIndex := 430, descriptorIndex := 62, attributes := #[] }, { accessFlags := 4120, nameIndex := 46, descriptorIndex := 47, attributes := #[] }])
  fields := #[{ name := "HI_BYTE_SHIFT", type := .int, accessFlags := 26, slot := 0, constantValue := 0 }, { name := "LO_BYTE_SHIFT", type := .int, accessFlags := 26, slot := 1, constantValue := 0 }, { name := "MAX_LENGTH", type := .int, accessFlags := 24, slot := 2, constantValue := 0 }, { name := "$assertionsDisabled", type := .boolean, accessFlags := 4120, slot := 3, constantValue := 0 }]
  methods := #[k8m0, k8m1, k8m2, k8m3]
  instanceTypes := #[]
  staticTypes := #[.int, .int, .int, .boolean]
  resolved := Array.replicate 635 none
  statics := none }

def pool9 : Array CpInfo := pool [(1, .class_ 2), (0, u "com/example/tickwright/tickwright/model/Outcomes"), (0, .class_ 4), (0, u "java/lang/Object")] 20

/-- com/example/tickwright/tickwright/model/Outcomes -/
def k9 : Class := { plain "com/example/tickwright/tickwright/model/Outcomes" (some 0) with
  accessFlags := 1537
  interfaces := #[]
  cf := some (fileOf pool9 1 #[] #[] 1537 3 #[] #[])
  fields := #[]
  methods := #[]
  instanceTypes := #[]
  staticTypes := #[]
  resolved := Array.replicate 25 none
  statics := none }

def pool10 : Array CpInfo := pool [(1, .methodref 2 3), (0, .class_ 4), (0, .nameAndType 5 6), (0, u "java/lang/Object"), (0, u "<init>"), (0, u "()V"), (7, .class_ 16), (1, u "com/example/tickwright/tickwright/io/ReplaySummary"), (0, u "shortSalesRefused"), (0, u "J"), (0, .fieldref 14 20), (0, .nameAndType 21 18), (0, u "fills"), (0, .fieldref 14 23), (0, .nameAndType 24 18), (0, u "filledShares"), (5, u "takersUnfilled"), (5, u "refused"), (5, u "()J"), (76, .class_ 120), (0, u "com/example/tickwright/tickwright/model/Outcomes"), (6, u "fill"), (0, u "(Ljava/lang/String;Ljava/lang/String;JJ)V")] 61

def k10c0 : Code := { maxStack := 1, maxLocals := 1, code := prog_23_method_1_code, exceptionTable := #[], attributes := #[] }
def k10m0 : Method := { name := "<init>", desc := "()V", sig := { parameters := [], returnType := none }, accessFlags := 1, code := some k10c0 }
def k10c1 : Code := { maxStack := 5, maxLocals := 7, code := prog_23_method_4_code, exceptionTable := #[], attributes := #[] }
def k10m1 : Method := { name := "fill", desc := "(Ljava/lang/String;Ljava/lang/String;JJ)V", sig := { parameters := [(.object "java/lang/String"), (.object "java/lang/String"), .long, .long], returnType := none }, accessFlags := 1, code := some k10c1 }
def k10c2 : Code := { maxStack := 2, maxLocals := 1, code := prog_23_method_13_code, exceptionTable := #[], attributes := #[] }
def k10m2 : Method := { name := "fills", desc := "()J", sig := { parameters := [], returnType := some .long }, accessFlags := 1, code := some k10c2 }
def k10c3 : Code := { maxStack := 2, maxLocals := 1, code := prog_23_method_14_code, exceptionTable := #[], attributes := #[] }
def k10m3 : Method := { name := "filledShares", desc := "()J", sig := { parameters := [], returnType := some .long }, accessFlags := 1, code := some k10c3 }
/-- com/example/tickwright/tickwright/io/ReplaySummary -/
def k10 : Class := { plain "com/example/tickwright/tickwright/io/ReplaySummary" (some 0) with
  accessFlags := 49
  interfaces := #[9]
  cf := some (fileOf pool10 14 #[] #[{ accessFlags := 1, nameIndex := 5, descriptorIndex := 6, attributes := #[] }, { accessFlags := 1, nameIndex := 127, descriptorIndex := 128, attributes := #[] }, { accessFlags := 1, nameIndex := 21, descriptorIndex := 42, attributes := #[] }, { accessFlags := 1, nameIndex := 24, descriptorIndex := 42, attributes := #[] }] 49 2 #[119] #[{ accessFlags := 2, nameIndex := 21, descriptorIndex := 18, attributes := #[] }, { accessFlags := 2, nameIndex := 24, descriptorIndex := 18, attributes := #[] }, { accessFlags := 2, nameIndex := 30, descriptorIndex := 18, attributes := #[] }, { accessFlags := 2, nameIndex := 17, descriptorIndex := 18, attributes := #[] }, { accessFlags := 2, nameIndex := 36, descriptorIndex := 18, attributes := #[] }])
  fields := #[{ name := "fills", type := .long, accessFlags := 2, slot := 0, constantValue := 0 }, { name := "filledShares", type := .long, accessFlags := 2, slot := 1, constantValue := 0 }, { name := "takersUnfilled", type := .long, accessFlags := 2, slot := 2, constantValue := 0 }, { name := "shortSalesRefused", type := .long, accessFlags := 2, slot := 3, constantValue := 0 }, { name := "refused", type := .long, accessFlags := 2, slot := 4, constantValue := 0 }]
  methods := #[k10m0, k10m1, k10m2, k10m3]
  instanceTypes := #[.long, .long, .long, .long, .long]
  staticTypes := #[]
  resolved := Array.replicate 190 none
  statics := none }

def pool11 : Array CpInfo := pool [(4, .class_ 6), (1, u "java/lang/Object"), (0, u "<init>"), (0, u "()V"), (5, .class_ 16), (1, u "java/lang/StringLatin1"), (104, u "$assertionsDisabled"), (0, u "Z"), (98, .class_ 223), (1, u "java/lang/StringLatin1$LinesSpliterator"), (166, .class_ 391), (0, u "java/lang/StringLatin1$CharsSpliterator")] 3

def k11m0 : Method := { name := "<init>", desc := "()V", sig := { parameters := [], returnType := none }, accessFlags := 0, code := none }
/-- java/lang/StringLatin1 -/
def k11 : Class := { plain "java/lang/StringLatin1" (some 0) with
  accessFlags := 48
  interfaces := #[]
  cf := some (fileOf pool11 14 #[.nestMembers #[390, 221]] #[{ accessFlags := 0, nameIndex := 7, descriptorIndex := 8, attributes := #[] }] 48 4 #[] #[{ accessFlags := 4120, nameIndex := 121, descriptorIndex := 122, attributes := #[] }])
  fields := #[{ name := "$assertionsDisabled", type := .boolean, accessFlags := 4120, slot := 0, constantValue := 0 }]
  methods := #[k11m0]
  instanceTypes := #[]
  staticTypes := #[.boolean]
  resolved := Array.replicate 395 none
  statics := none }

def pool12 : Array CpInfo := pool [(2, .class_ 4), (1, u "java/lang/Object"), (0, u "<init>"), (0, u "()V"), (17, .class_ 26), (1, u "jdk/internal/util/Preconditions"), (28, .class_ 56), (0, u "jdk/internal/util/Preconditions$4"), (57, .class_ 115), (0, u "jdk/internal/util/Preconditions$1"), (7, u "SIOOBE_FORMATTER"), (0, u "Ljava/util/function/BiFunction;"), (0, .class_ 126), (0, u "jdk/internal/util/Preconditions$2"), (3, u "AIOOBE_FORMATTER"), (0, .class_ 132), (0, u "jdk/internal/util/Preconditions$3"), (3, u "IOOBE_FORMATTER")] 57

def k12m0 : Method := { name := "<init>", desc := "()V", sig := { parameters := [], returnType := none }, accessFlags := 1, code := none }
/-- jdk/internal/util/Preconditions -/
def k12 : Class := { plain "jdk/internal/util/Preconditions" (some 0) with
  accessFlags := 33
  interfaces := #[]
  cf := some (fileOf pool12 24 #[.nestMembers #[55, 131, 125, 114]] #[{ accessFlags := 1, nameIndex := 5, descriptorIndex := 6, attributes := #[] }] 33 2 #[] #[{ accessFlags := 25, nameIndex := 123, descriptorIndex := 124, attributes := #[] }, { accessFlags := 25, nameIndex := 130, descriptorIndex := 124, attributes := #[] }, { accessFlags := 25, nameIndex := 136, descriptorIndex := 124, attributes := #[] }])
  fields := #[{ name := "SIOOBE_FORMATTER", type := (.object "java/util/function/BiFunction"), accessFlags := 25, slot := 0, constantValue := 0 }, { name := "AIOOBE_FORMATTER", type := (.object "java/util/function/BiFunction"), accessFlags := 25, slot := 1, constantValue := 0 }, { name := "IOOBE_FORMATTER", type := (.object "java/util/function/BiFunction"), accessFlags := 25, slot := 2, constantValue := 0 }]
  methods := #[k12m0]
  instanceTypes := #[]
  staticTypes := #[(.object "java/util/function/BiFunction"), (.object "java/util/function/BiFunction"), (.object "java/util/function/BiFunction")]
  resolved := Array.replicate 194 none
  statics := some 1 }

def pool13 : Array CpInfo := pool [(9, u "<init>"), (6, .class_ 18), (1, u "java/lang/Object"), (0, u "()V"), (1, .class_ 23), (1, u "jdk/internal/util/ArraysSupport"), (0, u "LOG2_ARRAY_LONG_INDEX_SCALE"), (0, u "I"), (2, u "U"), (0, u "Ljdk/internal/misc/Unsafe;"), (8, u "BIG_ENDIAN"), (0, u "Z"), (8, u "LOG2_BYTE_BIT_SIZE"), (4, u "LOG2_ARRAY_INT_INDEX_SCALE"), (54, u "JLA"), (0, u "Ljdk/internal/access/JavaLangAccess;"), (11, u "LOG2_ARRAY_BOOLEAN_INDEX_SCALE"), (9, u "LOG2_ARRAY_BYTE_INDEX_SCALE"), (5, u "LOG2_ARRAY_CHAR_INDEX_SCALE"), (5, u "LOG2_ARRAY_SHORT_INDEX_SCALE"), (18, u "LOG2_ARRAY_FLOAT_INDEX_SCALE"), (24, u "LOG2_ARRAY_DOUBLE_INDEX_SCALE"), (89, u "T_BOOLEAN"), (2, u "T_CHAR"), (1, u "T_FLOAT"), (1, u "T_DOUBLE"), (1, u "T_BYTE"), (1, u "T_SHORT"), (1, u "T_INT"), (1, u "T_LONG"), (1, u "SOFT_MAX_ARRAY_LENGTH")] 83

def k13m0 : Method := { name := "<init>", desc := "()V", sig := { parameters := [], returnType := none }, accessFlags := 2, code := none }
/-- jdk/internal/util/ArraysSupport -/
def k13 : Class := { plain "jdk/internal/util/ArraysSupport" (some 0) with
  accessFlags := 33
  interfaces := #[]
  cf := some (fileOf pool13 21 #[] #[{ accessFlags := 2, nameIndex := 9, descriptorIndex := 19, attributes := #[] }] 33 16 #[] #[{ accessFlags := 24, nameIndex := 28, descriptorIndex := 29, attributes := #[] }, { accessFlags := 26, nameIndex := 38, descriptorIndex := 39, attributes := #[] }, { accessFlags := 25, nameIndex := 121, descriptorIndex := 25, attributes := #[] }, { accessFlags := 25, nameIndex := 131, descriptorIndex := 25, attributes := #[] }, { accessFlags := 25, nameIndex := 137, descriptorIndex := 25, attributes := #[] }, { accessFlags := 25, nameIndex := 143, descriptorIndex := 25, attributes := #[] }, { accessFlags := 25, nameIndex := 53, descriptorIndex := 25, attributes := #[] }, { accessFlags := 25, nameIndex := 24, descriptorIndex := 25, attributes := #[] }, { accessFlags := 25, nameIndex := 162, descriptorIndex := 25, attributes := #[] }, { accessFlags := 25, nameIndex := 187, descriptorIndex := 25, attributes := #[] }, { accessFlags := 26, nameIndex := 48, descriptorIndex := 25, attributes := #[] }, { accessFlags := 25, nameIndex := 277, descriptorIndex := 25, attributes := #[] }, { accessFlags := 25, nameIndex := 280, descriptorIndex := 25, attributes := #[] }, { accessFlags := 25, nameIndex := 282, descriptorIndex := 25, attributes := #[] }, { accessFlags := 25, nameIndex := 284, descriptorIndex := 25, attributes := #[] }, { accessFlags := 25, nameIndex := 286, descriptorIndex := 25, attributes := #[] }, { accessFlags := 25, nameIndex := 288, descriptorIndex := 25, attributes := #[] }, { accessFlags := 25, nameIndex := 290, descriptorIndex := 25, attributes := #[] }, { accessFlags := 25, nameIndex := 292, descriptorIndex := 25, attributes := #[] }, { accessFlags := 26, nameIndex := 108, descriptorIndex := 109, attributes := #[] }, { accessFlags := 25, nameIndex := 294, descriptorIndex := 25, attributes := #[] }])
  fields := #[{ name := "U", type := (.object "jdk/internal/misc/Unsafe"), accessFlags := 24, slot := 0, constantValue := 0 }, { name := "BIG_ENDIAN", type := .boolean, accessFlags := 26, slot := 1, constantValue := 0 }, { name := "LOG2_ARRAY_BOOLEAN_INDEX_SCALE", type := .int, accessFlags := 25, slot := 2, constantValue := 0 }, { name := "LOG2_ARRAY_BYTE_INDEX_SCALE", type := .int, accessFlags := 25, slot := 3, constantValue := 0 }, { name := "LOG2_ARRAY_CHAR_INDEX_SCALE", type := .int, accessFlags := 25, slot := 4, constantValue := 0 }, { name := "LOG2_ARRAY_SHORT_INDEX_SCALE", type := .int, accessFlags := 25, slot := 5, constantValue := 0 }, { name := "LOG2_ARRAY_INT_INDEX_SCALE", type := .int, accessFlags := 25, slot := 6, constantValue := 0 }, { name := "LOG2_ARRAY_LONG_INDEX_SCALE", type := .int, accessFlags := 25, slot := 7, constantValue := 0 }, { name := "LOG2_ARRAY_FLOAT_INDEX_SCALE", type := .int, accessFlags := 25, slot := 8, constantValue := 0 }, { name := "LOG2_ARRAY_DOUBLE_INDEX_SCALE", type := .int, accessFlags := 25, slot := 9, constantValue := 0 }, { name := "LOG2_BYTE_BIT_SIZE", type := .int, accessFlags := 26, slot := 10, constantValue := 0 }, { name := "T_BOOLEAN", type := .int, accessFlags := 25, slot := 11, constantValue := 0 }, { name := "T_CHAR", type := .int, accessFlags := 25, slot := 12, constantValue := 0 }, { name := "T_FLOAT", type := .int, accessFlags := 25, slot := 13, constantValue := 0 }, { name := "T_DOUBLE", type := .int, accessFlags := 25, slot := 14, constantValue := 0 }, { name := "T_BYTE", type := .int, accessFlags := 25, slot := 15, constantValue := 0 }, { name := "T_SHORT", type := .int, accessFlags := 25, slot := 16, constantValue := 0 }, { name := "T_INT", type := .int, accessFlags := 25, slot := 17, constantValue := 0 }, { name := "T_LONG", type := .int, accessFlags := 25, slot := 18, constantValue := 0 }, { name := "JLA", type := (.object "jdk/internal/access/JavaLangAccess"), accessFlags := 26, slot := 19, constantValue := 0 }, { name := "SOFT_MAX_ARRAY_LENGTH", type := .int, accessFlags := 25, slot := 20, constantValue := 0 }]
  methods := #[k13m0]
  instanceTypes := #[]
  staticTypes := #[(.object "jdk/internal/misc/Unsafe"), .boolean, .int, .int, .int, .int, .int, .int, .int, .int, .int, .int, .int, .int, .int, .int, .int, .int, .int, (.object "jdk/internal/access/JavaLangAccess"), .int]
  resolved := Array.replicate 378 none
  statics := none }

def pool14 : Array CpInfo := pool [(1, u "java/lang/Cloneable"), (0, .class_ 1), (0, u "java/lang/Object"), (0, .class_ 3)] 3

/-- java/lang/Cloneable -/
def k14 : Class := { plain "java/lang/Cloneable" (some 0) with
  accessFlags := 1537
  interfaces := #[]
  cf := some (fileOf pool14 2 #[] #[] 1537 4 #[] #[])
  fields := #[]
  methods := #[]
  instanceTypes := #[]
  staticTypes := #[]
  resolved := Array.replicate 8 none
  statics := none }

/-- the primitive byte -/
def k15 : Class := { plain "byte" none with kind := .primitive 'B', accessFlags := 0x411 }
/-- [B -/
def k16 : Class := { plain "[B" (some 0) with kind := .array 15 .byte, interfaces := #[14, 2], accessFlags := 1041 }

/-- the primitive char -/
def k17 : Class := { plain "char" none with kind := .primitive 'C', accessFlags := 0x411 }
/-- [C -/
def k18 : Class := { plain "[C" (some 0) with kind := .array 17 .char, interfaces := #[14, 2], accessFlags := 1041 }

/-- the primitive int -/
def k19 : Class := { plain "int" none with kind := .primitive 'I', accessFlags := 0x411 }
/-- [I -/
def k20 : Class := { plain "[I" (some 0) with kind := .array 19 .int, interfaces := #[14, 2], accessFlags := 1041 }

def heap : Heap := #[{ cls := 7, slots := #[.long 0, .int 1, .null, .int 0, .null, .int 0, .int 0], vm := .statics 7 },
  { cls := 12, slots := #[.null, .null, .null], vm := .statics 12 }]
def classes : Array Class := #[k0, k1, k2, k3, k4, k5, k6, k7, k8, k9, k10, k11, k12, k13, k14, k15, k16, k17, k18, k19, k20]
def interned : List (Array UInt16 × Addr) := []
def slotsUsed : Nat := 10
def theMethod : MethodId := ⟨1, 1⟩
def args0 : Array Value := #[.long 1, .long 2, .long 3, .long 4, .int 5, .int 6]
def aboutOver (below : List Frame) : State where
  vm := { classes := classes, interned := interned.toArray }
  heap := heap
  slotsUsed := slotsUsed
  threads := #[{ frames := .invoking theMethod args0 :: below }]
def below0 : List Frame := [.native { method := ⟨0, 0⟩, args := #[] }]
def about1 : State := aboutOver below0
def p0 : Program := .bare "" "" ""
def e0 : Env := launch0.env 0 0 0
theorem w_frames : about1.frames = Frame.invoking theMethod args0 :: below0 := rfl
set_option maxRecDepth 65536 in
theorem w_args : argsFit about1.vm theMethod args0 = true := by decide +kernel
set_option maxRecDepth 65536 in
theorem w_heap : heapFits about1 = true := by decide +kernel
set_option maxRecDepth 65536 in
theorem w_runnable : about1.curStatus? = some .runnable := by decide +kernel
set_option maxRecDepth 65536 in
theorem w_alone : about1.alone = true := by decide +kernel
set_option maxRecDepth 65536 in
theorem w_named : about1.methodNamed? x = some theMethod := by decide +kernel
set_option maxRecDepth 65536 in
theorem w_hears : about1.hears theMethod below0 = true := by decide +kernel
set_option maxRecDepth 65536 in
theorem w_ripe : about1.ripe theMethod args0 below0 = true := by decide +kernel
theorem w_running : about1.status = .running := rfl
set_option maxRecDepth 65536 in
theorem w_room : about1.hasRoom e0.platform room_1 = true :=
  launch0.hasRoom_least _ room_1 (by decide +kernel) (by decide +kernel) (by decide +kernel) (by decide +kernel) (by decide +kernel) (by decide +kernel)
theorem allAtoms_all (ts : List Jvm.Cond) (a : Array Jvm.Value) (st : Jvm.State) : (allAtoms ts).before a st = ts.all (fun c => c.before a st) := by
  induction ts with
  | nil => rfl
  | cons c t ih =>
    show (Jvm.Cond.and c (allAtoms t)).before a st = _
    rw [Jvm.Cond.before_and, ih, List.all_cons]
def words1 : List Jvm.Cond := Jvm.Cond.code x code maxLocals ret :: tables_1
/-- a 'code' word, met by the world's own term for the bytes: nothing is compared byte by byte -/
theorem code_word {y : MethodName} {bytes : ByteArray} {mx : Nat} {rt : Option FieldType} {a : Array Value} {s : State} {m : MethodId} {meth : Method} {c : Code} (h1 : s.methodNamed? y = some m) (h2 : s.vm.method? m = some meth) (h3 : meth.code = some c) (h4 : c.code = bytes)
    (h5 : (c.maxLocals == mx && c.exceptionTable.isEmpty && decide (c.maxStack ≤ mostOperands) && decide (meth.sig.returnType = rt) && !meth.locks && decide (parseMethodDescriptor y.desc = some meth.sig)) = true) : (Jvm.Cond.code y bytes mx rt).before a s = true := by
  simp only [Bool.and_eq_true, beq_iff_eq, Bool.not_eq_true', decide_eq_true_eq] at h5
  obtain ⟨⟨⟨⟨⟨g1, g2⟩, g3⟩, g4⟩, g5⟩, g6⟩ := h5
  simp [Cond.before, Cond.holds, Cond.value, h1, h2, h3, h4, g1, g2, g3, g4, g5, g6]
def isCode : Jvm.Cond → Bool
  | .code _ _ _ _ => true
  | _ => false
theorem all_split {L : List Jvm.Cond} {P : Jvm.Cond → Bool} (h1 : L.all (fun c => isCode c || P c) = true) (h2 : ∀ c ∈ L.filter isCode, P c = true) : L.all P = true := by
  refine List.all_eq_true.mpr fun c hc => ?_
  have h := List.all_eq_true.mp h1 c hc
  rcases Bool.eq_false_or_eq_true (isCode c) with hi | hi
  · exact h2 c (List.mem_filter.mpr ⟨hc, hi⟩)
  · simpa [hi] using h
set_option maxRecDepth 65536 in
theorem w_c0 : (Jvm.Cond.code x code maxLocals ret).before args0 about1 = true := code_word (m := ⟨1, 1⟩) (meth := k1m1) (c := k1c1) (by decide +kernel) rfl rfl rfl (by decide +kernel)
set_option maxRecDepth 65536 in
theorem w_c1 : (Jvm.Cond.code ({ cls := "java/lang/String", name := "<init>", desc := "([C)V" } : Jvm.MethodName) jdk_42_method_3_code (2 : Nat) (Option.none : Option Jvm.ClassFile.FieldType)).before args0 about1 = true := code_word (m := ⟨7, 1⟩) (meth := k7m1) (c := k7c1) (by decide +kernel) rfl rfl rfl (by decide +kernel)
set_option maxRecDepth 65536 in
theorem w_c2 : (Jvm.Cond.code ({ cls := "java/lang/String", name := "<init>", desc := "([CIILjava/lang/Void;)V" } : Jvm.MethodName) jdk_42_method_149_code (6 : Nat) (Option.none : Option Jvm.ClassFile.FieldType)).before args0 about1 = true := code_word (m := ⟨7, 2⟩) (meth := k7m2) (c := k7c2) (by decide +kernel) rfl rfl rfl (by decide +kernel)
set_option maxRecDepth 65536 in
theorem w_c3 : (Jvm.Cond.code ({ cls := "java/lang/Object", name := "<init>", desc := "()V" } : Jvm.MethodName) object_method_1_code (1 : Nat) (Option.none : Option Jvm.ClassFile.FieldType)).before args0 about1 = true := code_word (m := ⟨0, 0⟩) (meth := k0m0) (c := k0c0) (by decide +kernel) rfl rfl rfl (by decide +kernel)
set_option maxRecDepth 65536 in
theorem w_c4 : (Jvm.Cond.code ({ cls := "java/lang/StringUTF16", name := "compress", desc := "([CII)[B" } : Jvm.MethodName) jdk_52_method_16_code (6 : Nat) (Option.some (Jvm.ClassFile.FieldType.array Jvm.ClassFile.FieldType.byte))).before args0 about1 = true := code_word (m := ⟨8, 2⟩) (meth := k8m2) (c := k8c2) (by decide +kernel) rfl rfl rfl (by decide +kernel)
set_option maxRecDepth 65536 in
theorem w_c5 : (Jvm.Cond.code ({ cls := "java/lang/StringUTF16", name := "compress", desc := "([CI[BII)I" } : Jvm.MethodName) jdk_52_method_21_code (7 : Nat) (Option.some Jvm.ClassFile.FieldType.int)).before args0 about1 = true := code_word (m := ⟨8, 3⟩) (meth := k8m3) (c := k8c3) (by decide +kernel) rfl rfl rfl (by decide +kernel)
set_option maxRecDepth 65536 in
theorem w_c6 : (Jvm.Cond.code ({ cls := "java/lang/StringUTF16", name := "coderFromArrayLen", desc := "([BI)B" } : Jvm.MethodName) jdk_52_method_15_code (2 : Nat) (Option.some Jvm.ClassFile.FieldType.byte)).before args0 about1 = true := code_word (m := ⟨8, 1⟩) (meth := k8m1) (c := k8c1) (by decide +kernel) rfl rfl rfl (by decide +kernel)
set_option maxRecDepth 65536 in
theorem w_c7 : (Jvm.Cond.code ({ cls := "com/example/tickwright/tickwright/io/ReplaySummary", name := "<init>", desc := "()V" } : Jvm.MethodName) prog_23_method_1_code (1 : Nat) (Option.none : Option Jvm.ClassFile.FieldType)).before args0 about1 = true := code_word (m := ⟨10, 0⟩) (meth := k10m0) (c := k10c0) (by decide +kernel) rfl rfl rfl (by decide +kernel)
set_option maxRecDepth 65536 in
theorem w_c8 : (Jvm.Cond.code ({ cls := "com/example/tickwright/tickwright/io/ReplaySummary", name := "fills", desc := "()J" } : Jvm.MethodName) prog_23_method_13_code (1 : Nat) (Option.some Jvm.ClassFile.FieldType.long)).before args0 about1 = true := code_word (m := ⟨10, 2⟩) (meth := k10m2) (c := k10c2) (by decide +kernel) rfl rfl rfl (by decide +kernel)
set_option maxRecDepth 65536 in
theorem w_c9 : (Jvm.Cond.code ({ cls := "com/example/tickwright/tickwright/io/ReplaySummary", name := "filledShares", desc := "()J" } : Jvm.MethodName) prog_23_method_14_code (1 : Nat) (Option.some Jvm.ClassFile.FieldType.long)).before args0 about1 = true := code_word (m := ⟨10, 3⟩) (meth := k10m3) (c := k10c3) (by decide +kernel) rfl rfl rfl (by decide +kernel)
set_option maxRecDepth 65536 in
theorem w_c10 : (Jvm.Cond.code ({ cls := "com/example/tickwright/tickwright/io/ReplaySummary", name := "fill", desc := "(Ljava/lang/String;Ljava/lang/String;JJ)V" } : Jvm.MethodName) prog_23_method_4_code (7 : Nat) (Option.none : Option Jvm.ClassFile.FieldType)).before args0 about1 = true := code_word (m := ⟨10, 1⟩) (meth := k10m1) (c := k10c1) (by decide +kernel) rfl rfl rfl (by decide +kernel)
def codes1 : List Jvm.Cond := [Jvm.Cond.code x code maxLocals ret, Jvm.Cond.code ({ cls := "java/lang/String", name := "<init>", desc := "([C)V" } : Jvm.MethodName) jdk_42_method_3_code (2 : Nat) (Option.none : Option Jvm.ClassFile.FieldType), Jvm.Cond.code ({ cls := "java/lang/String", name := "<init>", desc := "([CIILjava/lang/Void;)V" } : Jvm.MethodName) jdk_42_method_149_code (6 : Nat) (Option.none : Option Jvm.ClassFile.FieldType), Jvm.Cond.code ({ cls := "java/lang/Object", name := "<init>", desc := "()V" } : Jvm.MethodName) object_method_1_code (1 : Nat) (Option.none : Option Jvm.ClassFile.FieldType), Jvm.Cond.code ({ cls := "java/lang/StringUTF16", name := "compress", desc := "([CII)[B" } : Jvm.MethodName) jdk_52_method_16_code (6 : Nat) (Option.some (Jvm.ClassFile.FieldType.array Jvm.ClassFile.FieldType.byte)), Jvm.Cond.code ({ cls := "java/lang/StringUTF16", name := "compress", desc := "([CI[BII)I" } : Jvm.MethodName) jdk_52_method_21_code (7 : Nat) (Option.some Jvm.ClassFile.FieldType.int), Jvm.Cond.code ({ cls := "java/lang/StringUTF16", name := "coderFromArrayLen", desc := "([BI)B" } : Jvm.MethodName) jdk_52_method_15_code (2 : Nat) (Option.some Jvm.ClassFile.FieldType.byte), Jvm.Cond.code ({ cls := "com/example/tickwright/tickwright/io/ReplaySummary", name := "<init>", desc := "()V" } : Jvm.MethodName) prog_23_method_1_code (1 : Nat) (Option.none : Option Jvm.ClassFile.FieldType), Jvm.Cond.code ({ cls := "com/example/tickwright/tickwright/io/ReplaySummary", name := "fills", desc := "()J" } : Jvm.MethodName) prog_23_method_13_code (1 : Nat) (Option.some Jvm.ClassFile.FieldType.long), Jvm.Cond.code ({ cls := "com/example/tickwright/tickwright/io/ReplaySummary", name := "filledShares", desc := "()J" } : Jvm.MethodName) prog_23_method_14_code (1 : Nat) (Option.some Jvm.ClassFile.FieldType.long), Jvm.Cond.code ({ cls := "com/example/tickwright/tickwright/io/ReplaySummary", name := "fill", desc := "(Ljava/lang/String;Ljava/lang/String;JJ)V" } : Jvm.MethodName) prog_23_method_4_code (7 : Nat) (Option.none : Option Jvm.ClassFile.FieldType)]
set_option maxRecDepth 65536 in
theorem codes_eq : words1.filter isCode = codes1 := rfl
theorem w_codes : ∀ c ∈ words1.filter isCode, c.before args0 about1 = true := by
  rw [codes_eq]
  intro c hc
  simp only [codes1, List.mem_cons, List.not_mem_nil, or_false] at hc
  rcases hc with rfl | rfl | rfl | rfl | rfl | rfl | rfl | rfl | rfl | rfl | rfl
  · exact w_c0
  · exact w_c1
  · exact w_c2
  · exact w_c3
  · exact w_c4
  · exact w_c5
  · exact w_c6
  · exact w_c7
  · exact w_c8
  · exact w_c9
  · exact w_c10
set_option maxRecDepth 65536 in
theorem w_t1 : (words1.take 24).all (fun c => isCode c || c.before args0 about1) = true := by decide +kernel
set_option maxRecDepth 65536 in
theorem w_t2 : ((words1.drop 24).take 24).all (fun c => isCode c || c.before args0 about1) = true := by decide +kernel
set_option maxRecDepth 65536 in
theorem w_t3 : ((words1.drop 24).drop 24).all (fun c => isCode c || c.before args0 about1) = true := by decide +kernel
theorem w_tables : (allAtoms (Jvm.Cond.code x code maxLocals ret :: tables_1)).before args0 about1 = true := by
  rw [allAtoms_all]
  show words1.all (fun c => c.before args0 about1) = true
  refine all_split ?_ w_codes
  rw [← List.take_append_drop 24 words1, List.all_append, w_t1, ← List.take_append_drop 24 (words1.drop 24), List.all_append, w_t2, w_t3]
  rfl
set_option maxRecDepth 65536 in
theorem w_rest : rest_1_c.before args0 about1 = true := by decide +kernel
set_option maxRecDepth 65536 in
theorem w_case : (Jvm.Cond.and given_1 narrow_1).before args0 about1 = true := by decide +kernel
theorem w_applies : (headSpec (Jvm.Cond.code x code maxLocals ret :: tables_1) room_1).applies x e0.platform about1 = true :=
  (Spec.applies_iff w_frames).mpr ⟨w_running, w_runnable, w_alone, w_named, w_hears, w_ripe, w_room, w_tables⟩
theorem atStart : AtStart classFile x code maxLocals ret World_1 tables_1 room_1 Calls_1 rest_1 Pre_1 launch0 p0 e0 about1 theMethod args0 below0 :=
  ⟨lists_1, trivial, launch0.admits_env _ _ _, launch0.least_env, fairChoices_fair.cas, fairChoices_fair.clock, w_frames, w_args, w_heap, w_applies, trivial, w_rest, w_case⟩
end start1
theorem witness_1 : WitnessClaimed_1 := ⟨start1.p0, start1.e0, start1.about1, start1.theMethod, start1.args0, start1.below0, start1.atStart⟩
end Jvm.Pilot.@@N@@
