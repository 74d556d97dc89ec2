import Derived.Test.YouaiwMaxPlain
namespace Go.Proofs.Youaiw
open Ieee
set_option exponentiation.threshold 4000

theorem gap_eq (d l : Nat) : 1 <<< min d l = 2 ^ min d l := by rw [Nat.shiftLeft_eq, Nat.one_mul]

/-- What is kept and what is left of 'm / 2^d' by the model's short gap. -/
theorem gap_short (m d : Nat) : m / 2 ^ min d (m.log2 + 2) = m / 2 ^ d ∧ (m % 2 ^ min d (m.log2 + 2) != 0) = (m % 2 ^ d != 0) := by
  by_cases h : d ≤ m.log2 + 2
  · rw [Nat.min_eq_left h]; exact ⟨rfl, rfl⟩
  · rw [Nat.min_eq_right (by omega)]
    have hu : m < 2 ^ (m.log2 + 1) := Nat.lt_log2_self
    have h1 : m < 2 ^ (m.log2 + 2) := Nat.lt_of_lt_of_le hu (Nat.pow_le_pow_right (by decide) (by omega))
    have h2 : m < 2 ^ d := Nat.lt_of_lt_of_le hu (Nat.pow_le_pow_right (by decide) (by omega))
    rw [Nat.div_eq_of_lt h1, Nat.div_eq_of_lt h2, Nat.mod_eq_of_lt h1, Nat.mod_eq_of_lt h2]
    exact ⟨rfl, rfl⟩

theorem cut_down (s : Bool) (m d : Nat) : Toward.down.cut s m d = m / 2 ^ d + (s && (m % 2 ^ d != 0)).toNat := by
  obtain ⟨h1, h2⟩ := gap_short m d
  unfold Toward.cut
  simp only [gap_eq, h1, h2]

theorem cut_zero (s : Bool) (m d : Nat) : Toward.zero.cut s m d = m / 2 ^ d := by
  obtain ⟨h1, _⟩ := gap_short m d
  unfold Toward.cut
  simp only [gap_eq, h1]
  rfl

/-- A whole number that the format has, written and read. -/
theorem write_whole (s : Bool) (k j : Nat) (hk : k < 9007199254740992) (hj : j ≤ 971) :
    ∃ (m : Nat) (i : Int), double.read (double.nearest s (k * 2 ^ j) 0) = .number s m i ∧ Fl.Good (.number s m i) ∧ Fl.mg m i = k * 2 ^ j * 2 ^ 1074 := by
  by_cases h0 : k = 0
  · subst h0
    refine ⟨0, -1074, ?_, ⟨by decide, by decide, by decide⟩, by simp [Fl.mg]⟩
    unfold Format.nearest
    rw [if_pos (Nat.zero_mul _), Fl.read_word s 0 (by decide)]
    rfl
  · obtain ⟨m, i, h1, h2, h3, h4, h5⟩ := Fl.nearest_exact s k j 0 (by omega) hk (by omega) (by omega)
    refine ⟨m, i, h1, ⟨h2, h3, h4⟩, ?_⟩
    unfold Fl.mg
    rw [h5, Nat.mul_assoc, ← Nat.pow_add]
    congr 2
    omega

/-- The whole number below. -/
def flo (x : Nat) : Nat := double.write ((double.read x).integral .down)

theorem neg_ediv_pow (m d : Nat) : (-(m : Int)) / ((2 ^ d : Nat) : Int) = -((m / 2 ^ d + (true && (m % 2 ^ d != 0)).toNat : Nat) : Int) := by
  have hp : 0 < 2 ^ d := Nat.two_pow_pos d
  generalize 2 ^ d = D at hp
  have hdm := Nat.div_add_mod m D
  have hlt := Nat.mod_lt m hp
  by_cases hr : m % D = 0
  · have e : (true && (m % D != 0)).toNat = 0 := by simp [hr]
    rw [e, Nat.add_zero]
    have hm : (m : Int) = (D : Int) * ((m / D : Nat) : Int) := by rw [← Int.natCast_mul]; congr 1; omega
    generalize (m / D : Nat) = q at hm
    rw [hm, ← Int.mul_neg, Int.mul_ediv_cancel_left _ (by omega)]
  · have e : (true && (m % D != 0)).toNat = 1 := by simp [hr]
    rw [e]
    have hm : (-(m : Int)) = ((D : Int) - ((m % D : Nat) : Int)) + (D : Int) * (-(((m / D : Nat) : Int) + 1)) := by
      have : (m : Int) = (D : Int) * ((m / D : Nat) : Int) + ((m % D : Nat) : Int) := by rw [← Int.natCast_mul, ← Int.natCast_add]; congr 1; omega
      rw [Int.mul_neg, Int.mul_add]
      omega
    rw [hm, Int.add_mul_ediv_left _ _ (by omega), Int.ediv_eq_zero_of_lt (by omega) (by omega)]
    omega

theorem S_split (d : Nat) (hd : d ≤ 1074) : Fl.S = ((2 ^ d : Nat) : Int) * ((2 ^ (1074 - d) : Nat) : Int) := by
  unfold Fl.S
  rw [← Int.natCast_mul, ← Nat.pow_add]
  congr 2
  omega

theorem S_nat : Fl.S = ((2 ^ 1074 : Nat) : Int) := rfl

theorem floor_number (s : Bool) (m : Nat) (i : Int) (hg : Fl.Good (.number s m i)) :
    ∃ (m' : Nat) (i' : Int), double.read (double.write ((Datum.number s m i).integral .down)) = .number s m' i' ∧ Fl.Good (.number s m' i') ∧
      Fl.key (.number s m' i') = Fl.key (.number s m i) / Fl.S * Fl.S := by
  obtain ⟨hm, hi1, hi2⟩ := hg
  have hS := Fl.S_pos
  simp only [Datum.integral, Format.write]
  by_cases hi : 0 ≤ i
  · have e1 : (-i).toNat = 0 := by omega
    rw [e1, cut_down, Nat.pow_zero, Nat.div_one, Nat.mod_one, Nat.shiftLeft_eq]
    have e2 : m * 2 ^ i.toNat + (s && (0 != 0)).toNat = m * 2 ^ i.toNat := by simp
    rw [e2]
    obtain ⟨m', i', h1, h2, h3⟩ := write_whole s m i.toNat hm (by omega)
    refine ⟨m', i', h1, h2, ?_⟩
    have e3 : (Fl.mg m i : Int) = ((m * 2 ^ i.toNat : Nat) : Int) * Fl.S := by
      rw [S_nat, ← Int.natCast_mul]
      congr 1
      unfold Fl.mg
      rw [Nat.mul_assoc, ← Nat.pow_add]
      congr 2
      omega
    have e4 : (Fl.mg m' i' : Int) = ((m * 2 ^ i.toNat : Nat) : Int) * Fl.S := by
      rw [h3, S_nat, ← Int.natCast_mul]
    simp only [Fl.key, e3, e4]
    generalize ((m * 2 ^ i.toNat : Nat) : Int) = q
    cases s
    · simp only [Bool.false_eq_true, if_false]
      rw [Int.mul_ediv_cancel _ (by omega)]
    · simp only [if_true]
      rw [← Int.neg_mul, Int.mul_ediv_cancel _ (by omega)]
  · have e1 : i.toNat = 0 := by omega
    obtain ⟨d, hd⟩ : ∃ d, d = (-i).toNat := ⟨_, rfl⟩
    have hd1 : 1 ≤ d := by omega
    have hd2 : d ≤ 1074 := by omega
    rw [e1, ← hd, cut_down, Nat.shiftLeft_eq, Nat.pow_zero, Nat.mul_one]
    obtain ⟨k, hk⟩ : ∃ k, k = m / 2 ^ d + (s && (m % 2 ^ d != 0)).toNat := ⟨_, rfl⟩
    rw [← hk]
    have hkl : k < 9007199254740992 := by
      have h2 : 2 ^ 1 ≤ 2 ^ d := Nat.pow_le_pow_right (by decide) hd1
      have h3 : m / 2 ^ d ≤ m / 2 := Nat.div_le_div_left h2 (by decide)
      have h4 : (s && (m % 2 ^ d != 0)).toNat ≤ 1 := Bool.toNat_le _
      omega
    obtain ⟨m', i', h1, h2, h3⟩ := write_whole s k 0 hkl (by omega)
    rw [Nat.pow_zero, Nat.mul_one] at h1 h3
    refine ⟨m', i', h1, h2, ?_⟩
    have e4 : (Fl.mg m' i' : Int) = (k : Int) * Fl.S := by rw [h3, S_nat, ← Int.natCast_mul]
    have e3 : (Fl.mg m i : Int) = (m : Int) * ((2 ^ (1074 - d) : Nat) : Int) := by
      rw [← Int.natCast_mul]
      congr 1
      unfold Fl.mg
      congr 2
      omega
    have hc : (0 : Int) < ((2 ^ (1074 - d) : Nat) : Int) := Int.natCast_pos.2 (Nat.two_pow_pos _)
    simp only [Fl.key, e3, e4]
    cases s
    · simp only [Bool.false_eq_true, if_false]
      have hk' : k = m / 2 ^ d := by rw [hk]; simp
      have hq : (m : Int) * ((2 ^ (1074 - d) : Nat) : Int) / Fl.S = (k : Int) := by
        rw [S_split d hd2, Int.mul_ediv_mul_of_pos_left _ _ hc, hk']
        exact (Int.natCast_ediv _ _).symm
      rw [hq]
    · simp only [if_true]
      have hq : -((m : Int) * ((2 ^ (1074 - d) : Nat) : Int)) / Fl.S = -(k : Int) := by
        rw [S_split d hd2, ← Int.neg_mul, Int.mul_ediv_mul_of_pos_left _ _ hc, neg_ediv_pow, hk]
      rw [hq, Int.neg_mul]

theorem floor_infinity (s : Bool) : double.read (double.write ((Datum.infinity s).integral .down)) = .infinity s := by
  simp only [Datum.integral, Format.write, Fl.infRung_eq]
  rw [Fl.read_word s _ (by decide)]
  rfl

theorem big_whole : Fl.Big / Fl.S * Fl.S = Fl.Big ∧ -Fl.Big / Fl.S * Fl.S = -Fl.Big := by
  have hS := Fl.S_pos
  rw [Fl.Big_eq]
  generalize ((2 ^ 1926 : Nat) : Int) = q
  constructor
  · rw [Int.mul_ediv_cancel _ (by omega)]
  · rw [← Int.neg_mul, Int.mul_ediv_cancel _ (by omega)]

/-- THE FLOOR IN KEYS: of every word that is no NaN. -/
theorem floor_key (x : Nat) (hx : num x) : num (flo x) ∧ kz (flo x) = kz x / Fl.S * Fl.S := by
  have hg := num_good hx
  unfold kz flo
  cases e : double.read x with
  | nan s f => rw [e] at hg; exact hg.elim
  | infinity s =>
    have h := floor_infinity s
    refine ⟨good_num (by rw [h]; trivial), ?_⟩
    rw [h]
    cases s
    · exact big_whole.1.symm
    · exact big_whole.2.symm
  | number s m i =>
    rw [e] at hg
    obtain ⟨m', i', h1, h2, h3⟩ := floor_number s m i hg
    exact ⟨good_num (by rw [h1]; exact h2), by rw [h1, h3]⟩
end Go.Proofs.Youaiw
