import Derived.Test.YouaiwFloorExactPlain
namespace Go.Proofs.Youaiw
open Ieee
set_option exponentiation.threshold 4000

theorem recip_zero (v : Nat) (s : Bool) (i : Int) (e : double.read v = .number s 0 i) : floatBits .quo .f64 4607182418800017408 v = some (double.write (.infinity s)) := by
  show ((double.read 4607182418800017408).quotient (double.fractionBits + 2) (double.read v)).map double.write = _
  rw [read_one, e]
  simp [Datum.quotient]

theorem inf_above : (FloatKind.f64.format.order (double.write (.infinity false)) 0 == some .gt) = true := by decide +kernel

/-- A word from the first rung up to infinity is a positive number. -/
theorem word_pos (r : Nat) (h0 : 0 < r) (h1 : r ≤ 9218868437227405312) : num (double.word false r) ∧ 0 < kz (double.word false r) := by
  have hr := Fl.read_word false r (by omega)
  have key : Fl.Good (double.read (double.word false r)) ∧ 0 < Fl.key (double.read (double.word false r)) := by
    rw [hr]
    by_cases c1 : r < 4503599627370496
    · rw [if_pos c1]
      refine ⟨⟨by omega, by decide, by decide⟩, ?_⟩
      simp only [Fl.key, Bool.false_eq_true, if_false]
      exact Int.natCast_pos.2 (Nat.mul_pos h0 (Nat.two_pow_pos _))
    · rw [if_neg c1]
      by_cases c2 : r < 9218868437227405312
      · rw [if_pos c2]
        have hm : r % 4503599627370496 < 4503599627370496 := Nat.mod_lt _ (by decide)
        have hd : r / 4503599627370496 ≤ 2046 := by omega
        refine ⟨⟨by omega, by omega, by omega⟩, ?_⟩
        simp only [Fl.key, Bool.false_eq_true, if_false]
        exact Int.natCast_pos.2 (Nat.mul_pos (by omega) (Nat.two_pow_pos _))
      · rw [if_neg c2, if_pos (by omega)]
        refine ⟨trivial, ?_⟩
        simp only [Fl.key, Bool.false_eq_true, if_false]
        exact Fl.Big_pos
  exact ⟨good_num key.1, key.2⟩

theorem rung_pos (last : Int) (kept : Nat) (h : -52 ≤ last) : 0 < min ((last + 1074).toNat * 4503599627370496 + kept) 9218868437227405312 := by
  have h1 : 1 ≤ (last + 1074).toNat := by omega
  generalize (last + 1074).toNat = a at h1
  refine Nat.lt_min.2 ⟨?_, by decide⟩
  omega

theorem nearest_pos (mag : Nat) (place : Int) (hm : 0 < mag) (h : 0 ≤ place + mag.log2) : num (double.nearest false mag place) ∧ 0 < kz (double.nearest false mag place) := by
  unfold Format.nearest
  rw [if_neg (by omega)]
  simp only [Fl.fb, Fl.leastPlace_eq, Fl.binade_eq, Fl.infRung_eq]
  have hl : -52 ≤ max (place + (mag.log2 : Int) - ((52 : Nat) : Int)) (-1074) := by omega
  generalize max (place + (mag.log2 : Int) - ((52 : Nat) : Int)) (-1074) = last at hl
  generalize Toward.even.cut false (mag <<< (place - last).toNat) (last - place).toNat = kept
  rw [show last - (-1074) = last + 1074 by omega]
  exact word_pos _ (rung_pos last kept hl) (Nat.min_le_right _ _)

theorem log2_c : Nat.log2 4503599627370496 = 52 := by decide +kernel

/-- '1 / x' of a positive x below 1 is positive. -/
theorem recip_small (x m : Nat) (i : Int) (e : double.read x = .number false m i) (hm : 0 < m) (hi : -1074 ≤ i) (h : Fl.mg m i < 2 ^ 1074) :
    ∃ v, floatBits .quo .f64 4607182418800017408 x = some v ∧ (FloatKind.f64.format.order v 0 == some .gt) = true := by
  have hl : 2 ^ m.log2 ≤ m := Nat.log2_self_le (by omega)
  have hu : m < 2 ^ (m.log2 + 1) := Nat.lt_log2_self
  have hil : i + m.log2 ≤ -1 := by
    have h1 : 2 ^ (m.log2 + (i + 1074).toNat) ≤ Fl.mg m i := by
      rw [Nat.pow_add]
      exact Nat.mul_le_mul_right _ hl
    have h2 : m.log2 + (i + 1074).toNat < 1074 := (Nat.pow_lt_pow_iff_right (by decide)).1 (Nat.lt_of_le_of_lt h1 h)
    omega
  obtain ⟨D, hD⟩ : ∃ D, D = 4503599627370496 <<< (54 + m.log2 - 52) := ⟨_, rfl⟩
  have hD' : D = 2 ^ 53 * 2 ^ (m.log2 + 1) := by
    rw [hD, Nat.shiftLeft_eq, show (4503599627370496 : Nat) = 2 ^ 52 by decide, ← Nat.pow_add, ← Nat.pow_add]
    congr 1
    omega
  have hdiv : 2 ^ 53 ≤ D / m := by
    rw [Nat.le_div_iff_mul_le hm, hD']
    exact Nat.mul_le_mul_left _ (Nat.le_of_lt hu)
  obtain ⟨g, hg⟩ : ∃ g, g = 2 * (D / m) + (D % m != 0).toNat := ⟨_, rfl⟩
  have hg54 : 2 ^ 54 ≤ g := by
    rw [hg]
    have : (2 : Nat) ^ 54 = 2 * 2 ^ 53 := by decide
    omega
  have hlog : 54 ≤ g.log2 := (Nat.le_log2 (by omega)).2 hg54
  obtain ⟨hn, hpos⟩ := nearest_pos g (-52 - i - ((54 + m.log2 - 52 : Nat) : Int) - 1) (by omega) (by omega)
  refine ⟨double.nearest false g (-52 - i - ((54 + m.log2 - 52 : Nat) : Int) - 1), ?_, ?_⟩
  · show ((double.read 4607182418800017408).quotient (double.fractionBits + 2) (double.read x)).map double.write = _
    rw [read_one, e]
    simp only [Datum.quotient, if_neg (show ¬ m = 0 by omega), Fl.fb, log2_c, Bool.false_bne]
    rw [← hD, ← hg]
    rfl
  · rw [order_num hn num_zero, kz_zero, Int.compare_eq_gt.2 hpos]
    rfl

/-- THE SIGNS: where the floor is a zero, it bears x's sign. -/
theorem floor_sign (x : Nat) (hx : num x) (h0 : (FloatKind.f64.format.order (flo x) 0 == some .eq) = true) :
    ∃ v1 v2, floatBits .quo .f64 4607182418800017408 (flo x) = some v1 ∧ floatBits .quo .f64 4607182418800017408 x = some v2 ∧
      ((FloatKind.f64.format.order v1 0 == some .gt) == (FloatKind.f64.format.order v2 0 == some .gt)) = true := by
  have hS := Fl.S_pos
  have hg := num_good hx
  obtain ⟨hnf, hkf⟩ := floor_key x hx
  have hz : kz (flo x) = 0 := by
    rw [order_num hnf num_zero, kz_zero] at h0
    rcases Int.lt_trichotomy (kz (flo x)) 0 with h | h | h
    · rw [Int.compare_eq_lt.2 h] at h0; cases h0
    · exact h
    · rw [Int.compare_eq_gt.2 h] at h0; cases h0
  cases e : double.read x with
  | nan s f => rw [e] at hg; exact hg.elim
  | infinity s =>
    exfalso
    have hb := Fl.Big_pos
    have h1 : double.read (flo x) = .infinity s := by unfold flo; rw [e]; exact floor_infinity s
    unfold kz at hz
    rw [h1] at hz
    cases s
    · simp only [Fl.key, Bool.false_eq_true, if_false] at hz; omega
    · simp only [Fl.key, if_true] at hz; omega
  | number s m i =>
    rw [e] at hg
    obtain ⟨m', i', r1, r2, r3⟩ := floor_number s m i hg
    have hf : double.read (flo x) = .number s m' i' := by unfold flo; rw [e]; exact r1
    have hkx : kz x = Fl.key (.number s m i) := by unfold kz; rw [e]
    have hkr : kz (flo x) = Fl.key (.number s m' i') := by unfold kz; rw [hf]
    have hm' : m' = 0 := by
      rw [hkr] at hz
      have hp := Nat.two_pow_pos (i' + 1074).toNat
      cases hmm : m' with
      | zero => rfl
      | succ a =>
        exfalso
        have hpos : 0 < Fl.mg m' i' := Nat.mul_pos (by omega) hp
        cases s
        · simp only [Fl.key, Bool.false_eq_true, if_false] at hz; omega
        · simp only [Fl.key, if_true] at hz; omega
    subst hm'
    have q1 := recip_zero (flo x) s i' hf
    by_cases hm : m = 0
    · subst hm
      have q2 := recip_zero x s i e
      exact ⟨_, _, q1, q2, by simp⟩
    · -- a positive number below 1
      have hd := Int.mul_ediv_add_emod (kz x) Fl.S
      have hm0 := Int.emod_nonneg (kz x) (show Fl.S ≠ 0 by omega)
      have hm1 := Int.emod_lt_of_pos (kz x) hS
      rw [hz] at hkf
      rw [Int.mul_comm, ← hkf] at hd
      have hpos : 0 < Fl.mg m i := Nat.mul_pos (by omega) (Nat.two_pow_pos _)
      have hs : s = false := by
        cases s
        · rfl
        · exfalso
          simp only [Fl.key, if_true] at hkx
          omega
      subst hs
      simp only [Fl.key, Bool.false_eq_true, if_false] at hkx
      have hlt : Fl.mg m i < 2 ^ 1074 := by
        have : (Fl.mg m i : Int) < ((2 ^ 1074 : Nat) : Int) := by rw [← S_nat]; omega
        exact Int.ofNat_lt.1 this
      obtain ⟨v, q2, q3⟩ := recip_small x m i e (by omega) hg.2.1 hlt
      exact ⟨_, v, q1, q2, by rw [inf_above, q3]; rfl⟩
end Go.Proofs.Youaiw
