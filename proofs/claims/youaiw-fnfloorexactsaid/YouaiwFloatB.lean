import Derived.Test.YouaiwFloatA
namespace Go.Proofs.Youaiw.Fl
open Ieee
set_option exponentiation.threshold 4000

/-- The scale: every finite double is a whole multiple of 2^-1074. -/
def S : Int := ((2 ^ 1074 : Nat) : Int)
/-- What stands for an infinity: beyond every finite key, and a multiple of the scale. -/
def Big : Int := ((2 ^ 3000 : Nat) : Int)

theorem S_pos : 0 < S := Int.natCast_pos.2 (Nat.two_pow_pos 1074)
theorem Big_pos : 0 < Big := Int.natCast_pos.2 (Nat.two_pow_pos 3000)
theorem Big_eq : Big = ((2 ^ 1926 : Nat) : Int) * S := by
  have h : (2 : Nat) ^ (1926 + 1074) = 2 ^ 1926 * 2 ^ 1074 := Nat.pow_add 2 1926 1074
  exact (congrArg Int.ofNat h).trans (Int.natCast_mul _ _)

/-- A magnitude in units of 2^-1074. -/
def mg (m : Nat) (i : Int) : Nat := m * 2 ^ (i + 1074).toNat

/-- A datum's number in units of 2^-1074 (of a NaN: nothing is asked). -/
def key : Datum → Int
  | .number s m i => if s then -(mg m i : Int) else (mg m i : Int)
  | .infinity s => if s then -Big else Big
  | .nan _ _ => 0

/-- A datum that a word of the format stands for, no NaN. -/
def Good : Datum → Prop
  | .number _ m i => m < 9007199254740992 ∧ -1074 ≤ i ∧ i ≤ 971
  | .infinity _ => True
  | .nan _ _ => False

theorem pow_bound (m k : Nat) (hm : m < 2 ^ 53) (hk : k ≤ 2045) : m * 2 ^ k < 2 ^ 3000 := by
  have h1 : m * 2 ^ k < 2 ^ 53 * 2 ^ k := Nat.mul_lt_mul_of_pos_right hm (Nat.two_pow_pos _)
  rw [← Nat.pow_add] at h1
  exact Nat.lt_of_lt_of_le h1 (Nat.pow_le_pow_right (by decide) (by omega))

theorem mag_lt_big (m : Nat) (i : Int) (hm : m < 9007199254740992) (hi : i ≤ 971) : (mg m i : Int) < Big :=
  Int.ofNat_lt.2 (pow_bound m _ hm (by omega))

theorem signed_eq (s : Bool) (m up : Nat) : signed s m up = if s then -((m * 2 ^ up : Nat) : Int) else ((m * 2 ^ up : Nat) : Int) := by
  unfold signed
  rw [Nat.shiftLeft_eq]

theorem signed_scale (s : Bool) (m a c : Nat) : (if s then -((m * 2 ^ (a + c) : Nat) : Int) else ((m * 2 ^ (a + c) : Nat) : Int)) = signed s m a * ((2 ^ c : Nat) : Int) := by
  rw [signed_eq, Nat.pow_add, ← Nat.mul_assoc]
  cases s
  · simp only [Bool.false_eq_true, if_false]; exact Int.natCast_mul _ _
  · simp only [if_true]; rw [Int.natCast_mul, Int.neg_mul]

theorem cmp_scale (x y : Int) (c : Nat) : compare x y = compare (x * ((2 ^ c : Nat) : Int)) (y * ((2 ^ c : Nat) : Int)) := by
  have hc : (0 : Int) < ((2 ^ c : Nat) : Int) := Int.natCast_pos.2 (Nat.two_pow_pos c)
  rcases Int.lt_trichotomy x y with h | h | h
  · rw [Int.compare_eq_lt.2 h, Int.compare_eq_lt.2 (Int.mul_lt_mul_of_pos_right h hc)]
  · rw [h, Int.compare_eq_eq.2 rfl, Int.compare_eq_eq.2 rfl]
  · rw [Int.compare_eq_gt.2 h, Int.compare_eq_gt.2 (Int.mul_lt_mul_of_pos_right h hc)]

theorem key_bounds {d : Datum} (h : Good d) : -Big ≤ key d ∧ key d ≤ Big := by
  have hB := Big_pos
  cases d with
  | number s m i =>
    have := mag_lt_big m i h.1 h.2.2
    cases s <;> simp only [key] <;> simp <;> omega
  | infinity s => cases s <;> simp [key] <;> omega
  | nan s f => exact h.elim

theorem order_key {d e : Datum} (hd : Good d) (he : Good e) : d.order e = some (compare (key d) (key e)) := by
  have hB := Big_pos
  cases d with
  | nan s f => exact hd.elim
  | infinity s =>
    cases e with
    | nan t g => exact he.elim
    | infinity t =>
      cases s <;> cases t <;> simp only [Datum.order, key] <;> simp
      · symm; exact Int.compare_eq_gt.2 (by omega)
      · symm; exact Int.compare_eq_lt.2 (by omega)
    | number t n j =>
      have := mag_lt_big n j he.1 he.2.2
      cases s <;> cases t <;> simp only [Datum.order, key] <;> simp
      · symm; exact Int.compare_eq_gt.2 (by omega)
      · symm; exact Int.compare_eq_gt.2 (by omega)
      · symm; exact Int.compare_eq_lt.2 (by omega)
      · symm; exact Int.compare_eq_lt.2 (by omega)
  | number s m i =>
    cases e with
    | nan t g => exact he.elim
    | infinity t =>
      have := mag_lt_big m i hd.1 hd.2.2
      cases s <;> cases t <;> simp only [Datum.order, key] <;> simp
      · symm; exact Int.compare_eq_lt.2 (by omega)
      · symm; exact Int.compare_eq_gt.2 (by omega)
      · symm; exact Int.compare_eq_lt.2 (by omega)
      · symm; exact Int.compare_eq_gt.2 (by omega)
    | number t n j =>
      obtain ⟨_, hi, _⟩ := hd
      obtain ⟨_, hj, _⟩ := he
      simp only [Datum.order, key, mg]
      have e1 : (i + 1074).toNat = (i - min i j).toNat + (min i j + 1074).toNat := by omega
      have e2 : (j + 1074).toNat = (j - min i j).toNat + (min i j + 1074).toNat := by omega
      rw [e1, e2, signed_scale, signed_scale, ← cmp_scale]

/-- A word of the format (whatever its size) that is no NaN stands for a good datum. -/
theorem read_good (x : Nat) : Good (double.read x) ∨ ∃ s f, double.read x = .nan s f := by
  unfold Format.read
  simp only [signWeight_eq, binade_eq, infRung_eq, leastPlace_eq]
  generalize hs : (x / 9223372036854775808 % 2 == 1) = s
  have hr : x % 9223372036854775808 < 9223372036854775808 := Nat.mod_lt _ (by decide)
  generalize x % 9223372036854775808 = r at hr
  by_cases h1 : r < 4503599627370496
  · rw [if_pos h1]; left; exact ⟨by omega, by decide, by decide⟩
  · rw [if_neg h1]
    by_cases h2 : r < 9218868437227405312
    · rw [if_pos h2]; left
      refine ⟨?_, ?_, ?_⟩
      · have : r % 4503599627370496 < 4503599627370496 := Nat.mod_lt _ (by decide)
        omega
      · omega
      · have : r / 4503599627370496 ≤ 2046 := by omega
        omega
    · rw [if_neg h2]
      by_cases h3 : r = 9218868437227405312
      · rw [if_pos h3]; left; trivial
      · rw [if_neg h3]; right; exact ⟨_, _, rfl⟩
end Go.Proofs.Youaiw.Fl
