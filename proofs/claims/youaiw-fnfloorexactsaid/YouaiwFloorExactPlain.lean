import Derived.Test.YouaiwFloorPlain
namespace Go.Proofs.Youaiw
open Ieee
set_option exponentiation.threshold 4000

theorem read_one : double.read 4607182418800017408 = .number false 4503599627370496 (-52) := by decide +kernel
theorem read_zero : double.read 0 = .number false 0 (-1074) := by decide +kernel
theorem read_c : double.read 4841369599423283200 = .number false 4503599627370496 0 := by decide +kernel
theorem read_c' : double.read 14064741636278059008 = .number true 4503599627370496 0 := by decide +kernel

theorem num_zero : num 0 := good_num (by rw [read_zero]; exact ⟨by decide, by decide, by decide⟩)
theorem num_c : num 4841369599423283200 := good_num (by rw [read_c]; exact ⟨by decide, by decide, by decide⟩)
theorem num_c' : num 14064741636278059008 := good_num (by rw [read_c']; exact ⟨by decide, by decide, by decide⟩)

theorem kz_zero : kz 0 = 0 := by
  unfold kz
  rw [read_zero]
  simp [Fl.key, Fl.mg]

theorem mg_c : (Fl.mg 4503599627370496 0 : Int) = 4503599627370496 * Fl.S := by
  unfold Fl.mg
  rw [S_nat, Int.natCast_mul]
  rfl

theorem kz_c : kz 4841369599423283200 = 4503599627370496 * Fl.S := by
  unfold kz
  rw [read_c]
  exact mg_c

theorem kz_c' : kz 14064741636278059008 = -(4503599627370496 * Fl.S) := by
  unfold kz
  rw [read_c', ← mg_c]
  rfl

/-- From 2^52 on every number is whole. -/
theorem mg_big (m : Nat) (i : Int) (hm : m < 9007199254740992) (h : 4503599627370496 * 2 ^ 1074 ≤ Fl.mg m i) : 0 ≤ i := by
  by_cases hi : 0 ≤ i
  · exact hi
  · exfalso
    have h1 : (i + 1074).toNat ≤ 1073 := by omega
    have h2 : 2 ^ (i + 1074).toNat ≤ 2 ^ 1073 := Nat.pow_le_pow_right (by decide) h1
    have h3 : Fl.mg m i ≤ m * 2 ^ 1073 := Nat.mul_le_mul_left _ h2
    have h4 : (2 : Nat) ^ 1074 = 2 * 2 ^ 1073 := by rw [Nat.pow_succ, Nat.mul_comm]
    have h5 : m * 2 ^ 1073 < 9007199254740992 * 2 ^ 1073 := Nat.mul_lt_mul_of_pos_right hm (Nat.two_pow_pos _)
    rw [h4] at h
    generalize (2 : Nat) ^ 1073 = P at h h3 h5
    omega

theorem whole_of_nonneg (m : Nat) (i : Int) (hi : 0 ≤ i) : (Fl.mg m i : Int) = ((m * 2 ^ i.toNat : Nat) : Int) * Fl.S := by
  rw [S_nat, ← Int.natCast_mul]
  congr 1
  unfold Fl.mg
  rw [Nat.mul_assoc, ← Nat.pow_add]
  congr 2
  omega

theorem le_of_S (q : Int) (m : Nat) (i : Int) (h : 4503599627370496 * Fl.S ≤ q) (hq : q = (Fl.mg m i : Int)) : 4503599627370496 * 2 ^ 1074 ≤ Fl.mg m i := by
  rw [hq, S_nat] at h
  have h' : ((4503599627370496 * 2 ^ 1074 : Nat) : Int) ≤ (Fl.mg m i : Int) := by rw [Int.natCast_mul]; exact h
  exact Int.ofNat_le.1 h'

/-- THE GREAT ONES: floor is the number itself. -/
theorem floor_great (x : Nat) (hx : num x) (h : 4503599627370496 * Fl.S ≤ kz x ∨ kz x ≤ -(4503599627370496 * Fl.S)) : kz (flo x) = kz x := by
  rw [(floor_key x hx).2]
  have hS := Fl.S_pos
  have hg := num_good hx
  unfold kz at h ⊢
  cases e : double.read x with
  | nan s f => rw [e] at hg; exact hg.elim
  | infinity s =>
    cases s
    · exact big_whole.1
    · exact big_whole.2
  | number s m i =>
    rw [e] at hg h
    have hi : 0 ≤ i := by
      refine mg_big m i hg.1 ?_
      cases s
      · simp only [Fl.key, Bool.false_eq_true, if_false] at h
        rcases h with h | h
        · exact le_of_S _ m i h rfl
        · exfalso; omega
      · simp only [Fl.key, if_true] at h
        rcases h with h | h
        · exfalso; omega
        · exact le_of_S _ m i (by omega) rfl
    have hw := whole_of_nonneg m i hi
    simp only [Fl.key, hw]
    generalize ((m * 2 ^ i.toNat : Nat) : Int) = q
    cases s
    · simp only [Bool.false_eq_true, if_false]
      rw [Int.mul_ediv_cancel _ (by omega)]
    · simp only [if_true]
      rw [← Int.neg_mul, Int.mul_ediv_cancel _ (by omega)]

/-- What a cut towards zero keeps. -/
theorem cut_mg (s : Bool) (m : Nat) (i : Int) (hi : -1074 ≤ i) : Toward.zero.cut s (m <<< i.toNat) (-i).toNat = Fl.mg m i / 2 ^ 1074 := by
  rw [cut_zero, Nat.shiftLeft_eq]
  unfold Fl.mg
  by_cases h : 0 ≤ i
  · have e1 : (-i).toNat = 0 := by omega
    have e2 : (i + 1074).toNat = i.toNat + 1074 := by omega
    rw [e1, e2, Nat.pow_zero, Nat.div_one, Nat.pow_add, ← Nat.mul_assoc, Nat.mul_div_cancel _ (Nat.two_pow_pos _)]
  · have e1 : i.toNat = 0 := by omega
    obtain ⟨d, hd⟩ : ∃ d, d = (-i).toNat := ⟨_, rfl⟩
    have e2 : (i + 1074).toNat = 1074 - d := by omega
    have e3 : (2 : Nat) ^ 1074 = 2 ^ d * 2 ^ (1074 - d) := by rw [← Nat.pow_add]; congr 1; omega
    rw [e1, ← hd, e2, e3, Nat.pow_zero, Nat.mul_one, Nat.mul_div_mul_right _ _ (Nat.two_pow_pos _)]

/-- int64(x) of a small number: its whole part, n; and what n says of the floor. -/
theorem small_trunc (x : Nat) (hx : num x) (h1 : kz x < 4503599627370496 * Fl.S) (h2 : -(4503599627370496 * Fl.S) < kz x) :
    ∃ n : Int, floatToIntVal .f64 x .i64 = some n ∧ -4503599627370496 < n ∧ n < 4503599627370496 ∧
      (kz x < n * Fl.S → n ≤ 0 ∧ kz x / Fl.S * Fl.S = (n - 1) * Fl.S) ∧ (n * Fl.S ≤ kz x → kz x / Fl.S * Fl.S = n * Fl.S) := by
  have hS := Fl.S_pos
  have hg := num_good hx
  unfold kz at h1 h2 ⊢
  cases e : double.read x with
  | nan s f => rw [e] at hg; exact hg.elim
  | infinity s =>
    exfalso
    rw [e] at h1 h2
    have hb : 4503599627370496 * Fl.S ≤ Fl.Big := by
      rw [Fl.Big_eq]
      refine Int.mul_le_mul_of_nonneg_right ?_ (by omega)
      have : (2 : Nat) ^ 52 ≤ 2 ^ 1926 := Nat.pow_le_pow_right (by decide) (by decide)
      exact Int.ofNat_le.2 this
    cases s
    · simp only [Fl.key, Bool.false_eq_true, if_false] at h1; omega
    · simp only [Fl.key, if_true] at h2; omega
  | number s m i =>
    rw [e] at hg h1 h2
    have hcut := cut_mg s m i hg.2.1
    obtain ⟨g, hgk⟩ : ∃ g, g = Fl.mg m i := ⟨_, rfl⟩
    obtain ⟨k, hk⟩ : ∃ k, k = g / 2 ^ 1074 := ⟨_, rfl⟩
    have hSg : Fl.S = ((2 ^ 1074 : Nat) : Int) := rfl
    have hq : (k : Int) = (g : Int) / Fl.S := by rw [hk, hSg]; exact Int.natCast_ediv _ _
    have hint : (Datum.number s m i).toInt .zero = some (signed s k 0) := by
      simp only [Datum.toInt, Datum.integral]
      rw [hcut, ← hgk, ← hk]
    have hk0 : (0 : Int) ≤ (g : Int) := by omega
    have hdm := Int.mul_ediv_add_emod (g : Int) Fl.S
    have hm0 := Int.emod_nonneg (g : Int) (show Fl.S ≠ 0 by omega)
    have hm1 := Int.emod_lt_of_pos (g : Int) hS
    rw [← hq] at hdm
    have hgl : (g : Int) < 4503599627370496 * Fl.S := by
      simp only [Fl.key, ← hgk] at h1 h2
      cases s
      · simpa using h1
      · simp at h2; omega
    have hkl : (k : Int) < 4503599627370496 := by
      rw [hq]
      exact Int.ediv_lt_of_lt_mul hS hgl
    have hval : ∀ n : Int, signed s k 0 = n → -4503599627370496 < n → n < 4503599627370496 → floatToIntVal .f64 x .i64 = some n := by
      intro n hn a b
      unfold floatToIntVal
      have e' : FloatKind.f64.decode x = .number s m i := e
      rw [e', hint]
      simp only [hn]
      have hmin : IntKind.i64.min = -9223372036854775808 := by decide
      have hmax : IntKind.i64.max = 9223372036854775807 := by decide
      rw [if_pos ⟨by rw [hmin]; omega, by rw [hmax]; omega⟩]
    simp only [Fl.key, ← hgk]
    cases s
    · refine ⟨k, hval k (by simp [signed]) (by omega) hkl, by omega, hkl, ?_, ?_⟩
      · intro h
        simp only [Bool.false_eq_true, if_false] at h
        exfalso
        rw [Int.mul_comm] at h
        omega
      · intro _
        simp only [Bool.false_eq_true, if_false]
        rw [← hq]
    · refine ⟨-(k : Int), hval (-(k : Int)) (by simp [signed]) (by omega) (by omega), by omega, by omega, ?_, ?_⟩
      · intro h
        simp only [if_true] at h ⊢
        refine ⟨by omega, ?_⟩
        rw [Int.neg_mul, Int.mul_comm] at h
        have hneg : -(g : Int) = (Fl.S - (g : Int) % Fl.S) + Fl.S * (-(k : Int) - 1) := by
          rw [Int.mul_sub, Int.mul_neg, Int.mul_one]
          omega
        have hd : -(g : Int) / Fl.S = -(k : Int) - 1 := by
          rw [hneg, Int.add_mul_ediv_left _ _ (by omega), Int.ediv_eq_zero_of_lt (by omega) (by omega)]
          omega
        rw [hd]
      · intro h
        simp only [if_true] at h ⊢
        rw [Int.neg_mul, Int.mul_comm] at h
        have hz : (g : Int) % Fl.S = 0 := by omega
        have hneg : -(g : Int) = Fl.S * (-(k : Int)) := by
          rw [Int.mul_neg]
          omega
        have hd : -(g : Int) / Fl.S = -(k : Int) := by
          rw [hneg, Int.mul_ediv_cancel_left _ (by omega)]
        rw [hd]

/-- float64(n) of a small n. -/
theorem float_of_int (n : Int) (h1 : -4503599627370496 < n) (h2 : n < 4503599627370496) :
    ∃ (s : Bool) (m : Nat) (i : Int), double.read (floatOfInt .f64 n) = .number s m i ∧ Fl.Good (.number s m i) ∧ Fl.key (.number s m i) = n * Fl.S := by
  obtain ⟨m, i, e, hg, hm⟩ := write_whole (decide (n < 0)) n.natAbs 0 (by omega) (by omega)
  rw [Nat.pow_zero, Nat.mul_one] at e hm
  refine ⟨_, m, i, e, hg, ?_⟩
  have hm' : (Fl.mg m i : Int) = (n.natAbs : Int) * Fl.S := by rw [hm, S_nat, ← Int.natCast_mul]
  simp only [Fl.key, hm']
  by_cases h : n < 0
  · rw [decide_eq_true h]
    simp only [if_true]
    rw [← Int.neg_mul]
    congr 1
    omega
  · rw [decide_eq_false h]
    simp only [Bool.false_eq_true, if_false]
    congr 1
    omega

/-- 't - 1' of a small whole t that is not positive: exact. -/
theorem sub_one (t : Nat) (n : Int) (s : Bool) (m : Nat) (i : Int) (e : double.read t = .number s m i) (hg : Fl.Good (.number s m i)) (hk : Fl.key (.number s m i) = n * Fl.S) (h0 : n ≤ 0) (h1 : -4503599627370496 < n) :
    ∃ t1, floatBits .sub .f64 t 4607182418800017408 = some t1 ∧ num t1 ∧ kz t1 = (n - 1) * Fl.S := by
  obtain ⟨hm, hi1, hi2⟩ := hg
  obtain ⟨base, hb⟩ : ∃ base : Int, base = min i (-52) := ⟨_, rfl⟩
  have hb1 : -1074 ≤ base := by omega
  have hb2 : base ≤ -52 := by omega
  obtain ⟨j, hj⟩ : ∃ j, j = (-base).toNat := ⟨_, rfl⟩
  have hc : (0 : Int) < ((2 ^ (base + 1074).toNat : Nat) : Int) := Int.natCast_pos.2 (Nat.two_pow_pos _)
  have hS : Fl.S = ((2 ^ j : Nat) : Int) * ((2 ^ (base + 1074).toNat : Nat) : Int) := by
    rw [S_split j (by omega)]
    congr 3
    omega
  have t1 : signed s m (i - base).toNat = n * ((2 ^ j : Nat) : Int) := by
    refine Int.eq_of_mul_eq_mul_right (show ((2 ^ (base + 1074).toNat : Nat) : Int) ≠ 0 by omega) ?_
    rw [← Fl.signed_scale, Int.mul_assoc, ← hS, ← hk]
    simp only [Fl.key, Fl.mg]
    have e1 : (i - base).toNat + (base + 1074).toNat = (i + 1074).toNat := by omega
    rw [e1]
  have t2 : signed true 4503599627370496 (-52 - base).toNat = -((2 ^ j : Nat) : Int) := by
    rw [Fl.signed_eq]
    simp only [if_true]
    congr 2
    have : (4503599627370496 : Nat) = 2 ^ 52 := by decide
    rw [this, ← Nat.pow_add]
    congr 1
    omega
  obtain ⟨q, hq⟩ : ∃ q : Nat, (q : Int) = 1 - n := ⟨(1 - n).toNat, by omega⟩
  have hP : (0 : Int) < ((2 ^ j : Nat) : Int) := Int.natCast_pos.2 (Nat.two_pow_pos _)
  have htot : signed s m (i - base).toNat + signed true 4503599627370496 (-52 - base).toNat = -((q * 2 ^ j : Nat) : Int) := by
    rw [t1, t2, Int.natCast_mul, hq, ← Int.neg_mul]
    generalize ((2 ^ j : Nat) : Int) = P
    rw [show n * P + -P = (n - 1) * P by rw [Int.sub_mul, Int.one_mul]; omega]
    congr 1
    omega
  have hpos : 0 < q * 2 ^ j := Nat.mul_pos (by omega) (Nat.two_pow_pos _)
  have hsum : (Datum.number s m i).sum (Datum.number true 4503599627370496 (-52)) = some (.number true (q * 2 ^ j) base) := by
    simp only [Datum.sum, ← hb, htot]
    generalize q * 2 ^ j = T at hpos
    have a1 : ¬ (-(T : Int) = 0) := by omega
    have a2 : -(T : Int) < 0 := by omega
    rw [if_neg a1, decide_eq_true a2]
    congr 2
    omega
  obtain ⟨m', i', r1, r2, r3, r4, r5⟩ := Fl.nearest_exact true q j base (by omega) (by omega) (by omega) (by omega)
  refine ⟨double.nearest true (q * 2 ^ j) base, ?_, ?_, ?_⟩
  · show ((double.read t).sum (double.read 4607182418800017408).opposite).map double.write = _
    rw [e, read_one]
    simp only [Datum.opposite, Bool.not_false]
    rw [hsum]
    rfl
  · exact good_num (by rw [r1]; exact ⟨r2, r3, r4⟩)
  · unfold kz
    rw [r1]
    simp only [Fl.key, if_true, Fl.mg]
    rw [r5, show (base + j + 1074).toNat = 1074 by omega, Int.natCast_mul, ← S_nat, hq, ← Int.neg_mul]
    congr 1
    omega
end Go.Proofs.Youaiw
