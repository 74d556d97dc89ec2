import Ieee.Arith
namespace Go.Proofs.Youaiw.Fl
open Ieee

theorem fb : double.fractionBits = 52 := rfl
theorem eb : double.exponentBits = 11 := rfl
theorem leastPlace_eq : double.leastPlace = -1074 := by decide
theorem binade_eq : double.binade = 4503599627370496 := by decide
theorem infRung_eq : double.infRung = 9218868437227405312 := by decide
theorem signWeight_eq : double.signWeight = 9223372036854775808 := by decide

theorem word_neg (s : Bool) (r : Nat) (hr : r < 9223372036854775808) :
    (double.word s r / double.signWeight % 2 == 1) = s ∧ double.word s r % double.signWeight = r := by
  unfold Format.word
  rw [signWeight_eq]
  cases s
  · simp; omega
  · simp; omega

theorem read_word (s : Bool) (r : Nat) (hr : r < 9223372036854775808) :
    double.read (double.word s r) =
      if r < 4503599627370496 then .number s r (-1074)
      else if r < 9218868437227405312 then .number s (4503599627370496 + r % 4503599627370496) (-1074 + (r / 4503599627370496 - 1 : Nat))
      else if r = 9218868437227405312 then .infinity s
      else .nan s (r - 9218868437227405312) := by
  obtain ⟨h1, h2⟩ := word_neg s r hr
  unfold Format.read
  simp only [h1, h2, binade_eq, infRung_eq, leastPlace_eq]

theorem log2_mul_pow (q j : Nat) (hq : 0 < q) : (q * 2 ^ j).log2 = q.log2 + j := by
  have h0 : q * 2 ^ j ≠ 0 := Nat.ne_of_gt (Nat.mul_pos hq (Nat.two_pow_pos j))
  rw [Nat.log2_eq_iff h0]
  have hl : 2 ^ q.log2 ≤ q := Nat.log2_self_le (by omega)
  have hu : q < 2 ^ (q.log2 + 1) := Nat.lt_log2_self
  constructor
  · rw [Nat.pow_add]; exact Nat.mul_le_mul_right _ hl
  · rw [show q.log2 + j + 1 = (q.log2 + 1) + j by omega, Nat.pow_add 2 (q.log2 + 1) j]
    exact Nat.mul_lt_mul_of_pos_right hu (Nat.two_pow_pos j)

theorem cut_even_exact (s : Bool) (q j D : Nat) (hD : D ≤ j) (hq : 0 < q) :
    Toward.even.cut s (q * 2 ^ j) D = q * 2 ^ (j - D) := by
  unfold Toward.cut
  have hm : min D ((q * 2 ^ j).log2 + 2) = D := by rw [log2_mul_pow q j hq]; omega
  have hs : q * 2 ^ j = q * 2 ^ (j - D) * 2 ^ D := by
    rw [Nat.mul_assoc, ← Nat.pow_add]; congr 2; omega
  have hp := Nat.two_pow_pos D
  have hdiv : q * 2 ^ j / 2 ^ D = q * 2 ^ (j - D) := by rw [hs, Nat.mul_div_cancel _ hp]
  have hmod : q * 2 ^ j % 2 ^ D = 0 := by rw [hs, Nat.mul_mod_left]
  simp only [hm, Nat.shiftLeft_eq, Nat.one_mul, hdiv, hmod]
  have h1 : ¬ (2 ^ D < 2 * 0) := by omega
  have h2 : (2 ^ D == 2 * 0) = false := by simp
  rw [decide_eq_false h1, h2]
  simp

theorem rung_lt (last : Int) (kept : Nat) (h1 : last ≤ 971) (h2 : kept < 9007199254740992) :
    (last + 1074).toNat * 4503599627370496 + kept ≤ 9218868437227405311 := by
  have h : (last + 1074).toNat ≤ 2045 := by omega
  generalize (last + 1074).toNat = a at h
  omega

theorem nearest_exact (s : Bool) (q j : Nat) (place : Int) (hq0 : 0 < q) (hq : q < 9007199254740992)
    (he : -1074 ≤ place + j) (he2 : place + j ≤ 971) :
    ∃ (m : Nat) (i : Int), double.read (double.nearest s (q * 2 ^ j) place) = .number s m i ∧ m < 9007199254740992 ∧
      -1074 ≤ i ∧ i ≤ 971 ∧ m * 2 ^ (i + 1074).toNat = q * 2 ^ (place + j + 1074).toNat := by
  have h0 : q * 2 ^ j ≠ 0 := Nat.ne_of_gt (Nat.mul_pos hq0 (Nat.two_pow_pos j))
  have hl : 2 ^ q.log2 ≤ q := Nat.log2_self_le (by omega)
  have hu : q < 2 ^ (q.log2 + 1) := Nat.lt_log2_self
  have hl52 : q.log2 ≤ 52 := by
    have : q.log2 < 53 := (Nat.log2_lt (by omega)).2 hq
    omega
  obtain ⟨l, hle⟩ : ∃ l, l = q.log2 := ⟨_, rfl⟩
  rw [← hle] at hl hu hl52
  obtain ⟨last, hlast⟩ : ∃ last : Int, last = max (place + ((l + j : Nat) : Int) - 52) (-1074) := ⟨_, rfl⟩
  have hle1 : last ≤ place + j := by omega
  have hle2 : -1074 ≤ last := by omega
  obtain ⟨kept, hk⟩ : ∃ kept : Nat, kept = q * 2 ^ (place + j - last).toNat := ⟨_, rfl⟩
  have hcut : Toward.even.cut s ((q * 2 ^ j) <<< (place - last).toNat) (last - place).toNat = kept := by
    rw [Nat.shiftLeft_eq, Nat.mul_assoc, ← Nat.pow_add, cut_even_exact _ _ _ _ (by omega) hq0, hk]
    congr 2; omega
  have hkl : kept < 9007199254740992 := by
    have : (place + j - last).toNat ≤ 52 - l := by omega
    calc kept = q * 2 ^ (place + j - last).toNat := hk
      _ ≤ q * 2 ^ (52 - l) := Nat.mul_le_mul_left _ (Nat.pow_le_pow_right (by omega) this)
      _ < 2 ^ (l + 1) * 2 ^ (52 - l) := Nat.mul_lt_mul_of_pos_right hu (Nat.two_pow_pos _)
      _ = 2 ^ 53 := by rw [← Nat.pow_add]; congr 1; omega
  have hku : -1074 < last → 4503599627370496 ≤ kept := by
    intro h
    have : (place + j - last).toNat = 52 - l := by omega
    rw [hk, this]
    calc 4503599627370496 = 2 ^ l * 2 ^ (52 - l) := by rw [← Nat.pow_add, show l + (52 - l) = 52 by omega]
      _ ≤ q * 2 ^ (52 - l) := Nat.mul_le_mul_right _ hl
  have hrl := rung_lt last kept (by omega) hkl
  have hnear : double.nearest s (q * 2 ^ j) place = double.word s ((last + 1074).toNat * 4503599627370496 + kept) := by
    unfold Format.nearest
    rw [if_neg h0]
    simp only [log2_mul_pow q j hq0, ← hle, fb, leastPlace_eq, binade_eq, infRung_eq]
    have e1 : max (place + ((l + j : Nat) : Int) - ((52 : Nat) : Int)) (-1074) = last := by omega
    rw [e1, hcut]
    have e2 : min ((last - -1074).toNat * 4503599627370496 + kept) 9218868437227405312 = (last + 1074).toNat * 4503599627370496 + kept := by
      rw [show last - (-1074) = last + 1074 by omega]
      exact Nat.min_eq_left (Nat.le_succ_of_le hrl)
    rw [e2]
  refine ⟨kept, last, ?_, hkl, hle2, by omega, ?_⟩
  · rw [hnear, read_word _ _ (Nat.lt_of_le_of_lt hrl (by decide))]
    by_cases hc : (last + 1074).toNat * 4503599627370496 + kept < 4503599627370496
    · rw [if_pos hc]
      have h1 : last = -1074 := by omega
      have h2 : (last + 1074).toNat * 4503599627370496 + kept = kept := by omega
      rw [h2, h1]
    · rw [if_neg hc, if_pos (Nat.lt_succ_of_le hrl)]
      have hk52 : 4503599627370496 ≤ kept := by
        by_cases h : -1074 < last
        · exact hku h
        · have : last = -1074 := by omega
          subst this; simpa using hc
      have h1 : 4503599627370496 + ((last + 1074).toNat * 4503599627370496 + kept) % 4503599627370496 = kept := by omega
      have h2 : (-1074 : Int) + (((last + 1074).toNat * 4503599627370496 + kept) / 4503599627370496 - 1 : Nat) = last := by omega
      rw [h1, h2]
  · rw [hk, Nat.mul_assoc, ← Nat.pow_add]
    congr 2; omega
end Go.Proofs.Youaiw.Fl
