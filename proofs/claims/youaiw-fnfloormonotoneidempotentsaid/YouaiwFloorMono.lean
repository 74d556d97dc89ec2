import Derived.Test.YouaiwFloor
namespace Go.Proofs.Youaiw
open Go.RowKit

/-! The plain laws. -/
theorem floor_le (v S : Int) (hS : 0 < S) : v / S * S ≤ v := Int.ediv_mul_le v (by omega)
theorem floor_idem (v S : Int) (hS : 0 < S) : (v / S * S) / S * S = v / S * S := by rw [Int.mul_ediv_cancel _ (by omega)]
theorem floor_mono (a b S : Int) (hS : 0 < S) (h : a ≤ b) : a / S * S ≤ b / S * S :=
  Int.mul_le_mul_of_nonneg_right (Int.ediv_le_ediv hS h) (by omega)

theorem not_above {x y : Nat} (hx : num x) (hy : num y) (h : kz x ≤ kz y) : (FloatKind.f64.format.order x y == some .gt) = false := by
  rw [order_num hx hy]
  rcases Int.lt_or_eq_of_le h with h | h
  · rw [Int.compare_eq_lt.2 h]; rfl
  · rw [Int.compare_eq_eq.2 h]; rfl

theorem flo_below (x : Nat) (hx : num x) : (FloatKind.f64.format.order (flo x) x == some .gt) = false := by
  obtain ⟨h1, h2⟩ := floor_key x hx
  exact not_above h1 hx (by rw [h2]; exact floor_le _ _ Fl.S_pos)

theorem flo_again (x : Nat) (hx : num x) : FloatKind.f64.format.order (flo (flo x)) (flo x) = some .eq := by
  obtain ⟨h1, h2⟩ := floor_key x hx
  obtain ⟨h3, h4⟩ := floor_key (flo x) h1
  rw [order_num h3 h1, h4, h2, floor_idem _ _ Fl.S_pos, Int.compare_eq_eq.2 rfl]

theorem flo_mono (x y : Nat) (hx : num x) (hy : num y) (h : kz x ≤ kz y) : (FloatKind.f64.format.order (flo x) (flo y) == some .gt) = false := by
  obtain ⟨h1, h2⟩ := floor_key x hx
  obtain ⟨h3, h4⟩ := floor_key y hy
  exact not_above h1 h3 (by rw [h2, h4]; exact floor_mono _ _ _ Fl.S_pos h)

theorem mono_nan_x (x y : Nat) (hx : ¬ num x) (w : World) :
    Calls Uaig.prog 6 #[.float .f64 x, .float .f64 y] w fun e w' => e = .returned (.bool true) ∧ Below w.heap.size w w' := by
  have h1 : FloatKind.f64.format.order x x = none := order_nan_left hx x
  clear hx
  go_enter Uaig.func6, Uaig.ntmps6
  go_wp2
  go_ret
  exact ⟨rfl, Below.refl _ _⟩

theorem mono_nan_y (x y : Nat) (hx : num x) (hy : ¬ num y) (w : World) :
    Calls Uaig.prog 6 #[.float .f64 x, .float .f64 y] w fun e w' => e = .returned (.bool true) ∧ Below w.heap.size w w' := by
  have h1 : FloatKind.f64.format.order x x = some .eq := order_self hx
  have h2 : FloatKind.f64.format.order y y = none := order_nan_left hy y
  clear hx hy
  go_enter Uaig.func6, Uaig.ntmps6
  go_wp2
  go_ret
  exact ⟨rfl, Below.refl _ _⟩

theorem below_three (w : World) (a b c : Nat) : Below w.heap.size w (((w.alloc (argBlock1 a)).alloc (argBlock1 b)).alloc (argBlock1 c)) :=
  (((Below.refl _ _).alloc (Nat.le_refl _) _).alloc (by simp) _).alloc (by simp; omega) _

set_option maxHeartbeats 400000 in
theorem mono_walk (x y : Nat) (hx : num x) (hy : num y) (w : World) :
    Calls Uaig.prog 6 #[.float .f64 x, .float .f64 y] w fun e w' => e = .returned (.bool true) ∧ Below w.heap.size w w' := by
  have h1 : FloatKind.f64.format.order x x = some .eq := order_self hx
  have h2 : FloatKind.f64.format.order y y = some .eq := order_self hy
  have h3 := flo_below x hx
  have h4 := flo_again x hx
  have HX := fun w => floor_num x hx w
  have HY := fun w => floor_num y hy w
  have HF := fun w => floor_num (flo x) (floor_key x hx).1 w
  have hO := order_num hx hy
  rcases Int.lt_trichotomy (kz x) (kz y) with hlt | heq | hgt
  · rw [Int.compare_eq_lt.2 hlt] at hO
    have h5 := flo_mono x y hx hy (by omega)
    clear hx hy hlt
    go_enter Uaig.func6, Uaig.ntmps6
    go_wp2_with fail
    refine (HX _).mono ?_
    rintro e w1 ⟨rfl, rfl⟩
    go_wp2_with fail
    refine (HY _).mono ?_
    rintro e w2 ⟨rfl, rfl⟩
    go_wp2_with fail
    refine (HF _).mono ?_
    rintro e w3 ⟨rfl, rfl⟩
    go_wp2_with fail
    go_ret
    exact ⟨rfl, below_three w _ _ _⟩
  · rw [Int.compare_eq_eq.2 heq] at hO
    have h5 := flo_mono x y hx hy (by omega)
    clear hx hy heq
    go_enter Uaig.func6, Uaig.ntmps6
    go_wp2_with fail
    refine (HX _).mono ?_
    rintro e w1 ⟨rfl, rfl⟩
    go_wp2_with fail
    refine (HY _).mono ?_
    rintro e w2 ⟨rfl, rfl⟩
    go_wp2_with fail
    refine (HF _).mono ?_
    rintro e w3 ⟨rfl, rfl⟩
    go_wp2_with fail
    go_ret
    exact ⟨rfl, below_three w _ _ _⟩
  · rw [Int.compare_eq_gt.2 hgt] at hO
    clear hx hy hgt
    go_enter Uaig.func6, Uaig.ntmps6
    go_wp2_with fail
    refine (HX _).mono ?_
    rintro e w1 ⟨rfl, rfl⟩
    go_wp2_with fail
    refine (HY _).mono ?_
    rintro e w2 ⟨rfl, rfl⟩
    go_wp2_with fail
    refine (HF _).mono ?_
    rintro e w3 ⟨rfl, rfl⟩
    go_wp2_with fail
    go_ret
    exact ⟨rfl, below_three w _ _ _⟩
end Go.Proofs.Youaiw
