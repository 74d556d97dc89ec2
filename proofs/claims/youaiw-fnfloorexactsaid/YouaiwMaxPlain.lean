import Derived.Test.YouaiwFloatB
import Derived.Laws.FloatArith
namespace Go.Proofs.Youaiw
open Ieee

/-- The running maximum of jpfMax: a later item takes the place only where it is greater. -/
def best (z : Nat → Nat) : Nat → Nat
  | 0 => z 0
  | k + 1 => if Ieee.double.order (z (k + 1)) (best z k) == some .gt then z (k + 1) else best z k

theorem best_yes (z : Nat → Nat) (k : Nat) (h : (FloatKind.f64.format.order (z (1 + k)) (best z k) == some .gt) = true) : best z (k + 1) = z (1 + k) := by
  rw [Nat.add_comm 1 k] at *
  exact if_pos h

theorem best_no (z : Nat → Nat) (k : Nat) (h : (FloatKind.f64.format.order (z (1 + k)) (best z k) == some .gt) = false) : best z (k + 1) = best z k := by
  rw [Nat.add_comm 1 k] at h
  refine if_neg ?_
  intro h'
  have h'' : (FloatKind.f64.format.order (z (k + 1)) (best z k) == some .gt) = true := h'
  rw [h] at h''
  cases h''


/-- No NaN: what Go's 'v == v' says. -/
def num (x : Nat) : Prop := (FloatKind.f64.format.order x x != some .eq) = false
/-- The word's number. -/
def kz (x : Nat) : Int := Fl.key (double.read x)

theorem f64_order (x y : Nat) : FloatKind.f64.format.order x y = (double.read x).order (double.read y) := rfl

theorem num_good {x : Nat} (h : num x) : Fl.Good (double.read x) := by
  rcases Fl.read_good x with g | ⟨s, f, e⟩
  · exact g
  · unfold num at h
    rw [f64_order, e] at h
    simp [Datum.order] at h

theorem good_num {x : Nat} (h : Fl.Good (double.read x)) : num x := by
  unfold num
  rw [f64_order, Fl.order_key h h, Int.compare_eq_eq.2 rfl]
  rfl

theorem not_num {x : Nat} (h : ¬ num x) : ∃ s f, double.read x = .nan s f := by
  rcases Fl.read_good x with g | e
  · exact absurd (good_num g) h
  · exact e

theorem order_num {x y : Nat} (hx : num x) (hy : num y) : FloatKind.f64.format.order x y = some (compare (kz x) (kz y)) :=
  Fl.order_key (num_good hx) (num_good hy)

theorem order_self {x : Nat} (hx : num x) : FloatKind.f64.format.order x x = some .eq := by
  rw [order_num hx hx, Int.compare_eq_eq.2 rfl]

theorem order_nan_left {x : Nat} (h : ¬ num x) (y : Nat) : FloatKind.f64.format.order x y = none := by
  obtain ⟨s, f, e⟩ := not_num h
  rw [f64_order, e]
  cases double.read y <;> rfl

theorem order_nan_right {y : Nat} (h : ¬ num y) (x : Nat) : FloatKind.f64.format.order x y = none := by
  obtain ⟨s, f, e⟩ := not_num h
  rw [f64_order, e]
  cases double.read x <;> rfl

/-- If the first is a NaN it stays. -/
theorem best_nan (z : Nat → Nat) (h : ¬ num (z 0)) : ∀ k, best z k = z 0
  | 0 => rfl
  | k + 1 => by
    have ih := best_nan z h k
    rw [best_no z k (by rw [ih, order_nan_right h]; rfl), ih]

/-- The earliest of the greatest among the numbers at places from m to n - 1. -/
def First (z : Nat → Nat) (m n q : Nat) : Prop :=
  m ≤ q ∧ q < n ∧ num (z q) ∧ (∀ j, m ≤ j → j < n → num (z j) → kz (z j) ≤ kz (z q)) ∧ (∀ j, m ≤ j → j < q → num (z j) → kz (z j) < kz (z q))

theorem first_unique {z : Nat → Nat} {m n p q : Nat} (hp : First z m n p) (hq : First z m n q) : p = q := by
  obtain ⟨p1, p2, p3, p4, p5⟩ := hp
  obtain ⟨q1, q2, q3, q4, q5⟩ := hq
  rcases Nat.lt_trichotomy p q with h | h | h
  · have a := q5 p p1 h p3
    have b := p4 q q1 q2 q3
    omega
  · exact h
  · have a := p5 q q1 h q3
    have b := q4 p p1 p2 p3
    omega

theorem best_first (z : Nat → Nat) (h : num (z 0)) : ∀ k, ∃ p, best z k = z p ∧ First z 0 (k + 1) p
  | 0 => ⟨0, rfl, Nat.le_refl _, by omega, h, fun j _ hj _ => by
      have : j = 0 := by omega
      subst this; exact Int.le_refl _, fun j _ hj _ => absurd hj (Nat.not_lt_zero _)⟩
  | k + 1 => by
    obtain ⟨p, hp, p1, p2, p3, p4, p5⟩ := best_first z h k
    by_cases hn : num (z (1 + k))
    · have ho := order_num hn p3
      by_cases hg : kz (z p) < kz (z (1 + k))
      · refine ⟨1 + k, best_yes z k (by rw [hp, ho, Int.compare_eq_gt.2 hg]; rfl), Nat.zero_le _, by omega, hn, ?_, ?_⟩
        · intro j _ hj hnj
          by_cases e : j = 1 + k
          · subst e; exact Int.le_refl _
          · have := p4 j (Nat.zero_le _) (by omega) hnj
            omega
        · intro j _ hj hnj
          have := p4 j (Nat.zero_le _) (by omega) hnj
          omega
      · refine ⟨p, ?_, p1, by omega, p3, ?_, p5⟩
        · rw [best_no z k ?_, hp]
          rw [hp, ho]
          rcases Int.lt_or_eq_of_le (Int.not_lt.1 hg) with hlt | heq
          · rw [Int.compare_eq_lt.2 hlt]; rfl
          · rw [Int.compare_eq_eq.2 heq]; rfl
        · intro j _ hj hnj
          by_cases e : j = 1 + k
          · subst e; exact Int.not_lt.1 hg
          · exact p4 j (Nat.zero_le _) (by omega) hnj
    · refine ⟨p, ?_, p1, by omega, p3, ?_, p5⟩
      · rw [best_no z k (by rw [order_nan_left hn]; rfl), hp]
      · intro j _ hj hnj
        by_cases e : j = 1 + k
        · subst e; exact absurd hnj hn
        · exact p4 j (Nat.zero_le _) (by omega) hnj

/-- What the backward scan has found when the places below m are still to be looked at. -/
def Scan (z : Nat → Nat) (n m : Nat) (kk : Int) : Prop :=
  (kk = -1 ∧ ∀ j, m ≤ j → j < n → ¬ num (z j)) ∨ ∃ q : Nat, kk = q ∧ First z m n q

theorem scan_start (z : Nat → Nat) (n : Nat) : Scan z n n (-1) := Or.inl ⟨rfl, fun j h1 h2 => by omega⟩

theorem scan_nan_none {z : Nat → Nat} {n m : Nat} (h : ∀ j, m + 1 ≤ j → j < n → ¬ num (z j)) (hm : ¬ num (z m)) : Scan z n m (-1) :=
  Or.inl ⟨rfl, fun j h1 h2 => by
    by_cases e : j = m
    · subst e; exact hm
    · exact h j (by omega) h2⟩

theorem scan_nan_some {z : Nat → Nat} {n m q : Nat} (h : First z (m + 1) n q) (hm : ¬ num (z m)) : Scan z n m q := by
  obtain ⟨q1, q2, q3, q4, q5⟩ := h
  refine Or.inr ⟨q, rfl, by omega, q2, q3, ?_, ?_⟩
  · intro j h1 h2 h3
    by_cases e : j = m
    · subst e; exact absurd h3 hm
    · exact q4 j (by omega) h2 h3
  · intro j h1 h2 h3
    by_cases e : j = m
    · subst e; exact absurd h3 hm
    · exact q5 j (by omega) h2 h3

theorem scan_new_none {z : Nat → Nat} {n m : Nat} (hn : m < n) (h : ∀ j, m + 1 ≤ j → j < n → ¬ num (z j)) (hm : num (z m)) : Scan z n m m := by
  refine Or.inr ⟨m, rfl, Nat.le_refl _, hn, hm, ?_, fun j h1 h2 _ => by omega⟩
  intro j h1 h2 h3
  by_cases e : j = m
  · subst e; exact Int.le_refl _
  · exact absurd h3 (h j (by omega) h2)

theorem scan_new_some {z : Nat → Nat} {n m q : Nat} (hn : m < n) (h : First z (m + 1) n q) (hm : num (z m))
    (hg : (FloatKind.f64.format.order (z m) (z q) == some .gt || FloatKind.f64.format.order (z m) (z q) == some .eq) = true) : Scan z n m m := by
  obtain ⟨q1, q2, q3, q4, q5⟩ := h
  have hle : kz (z q) ≤ kz (z m) := by
    rw [order_num hm q3] at hg
    rcases Int.lt_trichotomy (kz (z m)) (kz (z q)) with a | a | a
    · rw [Int.compare_eq_lt.2 a] at hg; cases hg
    · omega
    · omega
  refine Or.inr ⟨m, rfl, Nat.le_refl _, hn, hm, ?_, fun j h1 h2 _ => by omega⟩
  intro j h1 h2 h3
  by_cases e : j = m
  · subst e; exact Int.le_refl _
  · have := q4 j (by omega) h2 h3
    omega

theorem scan_old_some {z : Nat → Nat} {n m q : Nat} (h : First z (m + 1) n q) (hm : num (z m))
    (hg : (FloatKind.f64.format.order (z m) (z q) == some .gt || FloatKind.f64.format.order (z m) (z q) == some .eq) = false) : Scan z n m q := by
  obtain ⟨q1, q2, q3, q4, q5⟩ := h
  have hlt : kz (z m) < kz (z q) := by
    rw [order_num hm q3] at hg
    rcases Int.lt_trichotomy (kz (z m)) (kz (z q)) with a | a | a
    · exact a
    · rw [Int.compare_eq_eq.2 a] at hg; cases hg
    · rw [Int.compare_eq_gt.2 a] at hg; cases hg
  refine Or.inr ⟨q, rfl, by omega, q2, q3, ?_, ?_⟩
  · intro j h1 h2 h3
    by_cases e : j = m
    · subst e; omega
    · exact q4 j (by omega) h2 h3
  · intro j h1 h2 h3
    by_cases e : j = m
    · subst e; exact hlt
    · exact q5 j (by omega) h2 h3

/-- THE PLAIN LAW: the forward maximum is the very word that the backward scan finds. -/
theorem scan_end {z : Nat → Nat} {n : Nat} {kk : Int} (h1 : 1 ≤ n) (h0 : num (z 0)) (h : Scan z n 0 kk) :
    ∃ q : Nat, kk = q ∧ q < n ∧ num (z q) ∧ best z (n - 1) = z q := by
  rcases h with ⟨_, h⟩ | ⟨q, hq, hF⟩
  · exact absurd h0 (h 0 (Nat.le_refl _) (by omega))
  · obtain ⟨p, hp, hP⟩ := best_first z h0 (n - 1)
    rw [show n - 1 + 1 = n by omega] at hP
    have e := first_unique hP hF
    subst e
    exact ⟨p, hq, hF.2.1, hF.2.2.1, hp⟩

/-- '1 / x' at a zero x is valid. -/
theorem one_over_zero (x : Nat) (h : (FloatKind.f64.format.order x 0 == some .eq) = true) : ∃ r, floatBits .quo .f64 4607182418800017408 x = some r := by
  have hx : num x := by
    by_cases hx : num x
    · exact hx
    · rw [order_nan_left hx] at h; cases h
  have h1 : double.read 4607182418800017408 = .number false 4503599627370496 (-52) := by decide +kernel
  have h0 : double.read 0 = .number false 0 (-1074) := by decide +kernel
  have hg := num_good hx
  rw [f64_order, h0] at h
  show ∃ r, ((double.read 4607182418800017408).quotient (double.fractionBits + 2) (double.read x)).map double.write = some r
  rw [h1]
  cases e : double.read x with
  | nan s f => rw [e] at hg; exact hg.elim
  | infinity s => exact ⟨_, rfl⟩
  | number s m i =>
    by_cases hm : m = 0
    · subst hm; exact ⟨_, rfl⟩
    · simp only [Datum.quotient, if_neg hm]
      exact ⟨_, rfl⟩
end Go.Proofs.Youaiw
