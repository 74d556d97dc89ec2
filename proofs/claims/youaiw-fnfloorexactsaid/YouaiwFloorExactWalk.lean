import Derived.Test.YouaiwFloor
import Derived.Test.YouaiwRecip
namespace Go.Proofs.Youaiw
open Go.RowKit

theorem eql_bool5 (a b : Bool) (w : World) : (binOp .eql 4 (.bool a) (.bool b)).run Uaig.prog w = .ok (.bool (a == b)) w := by kernel_rfl

attribute [local go_sem] eql_bool5

theorem ret_bool5 {a b : Bool} (h : a = b) : Ending.returned (.bool a) = .returned (.bool b) := by rw [h]

theorem below_one (w : World) (a n : Nat) : Below w.heap.size w ((w.alloc (argBlock1 a)).drewN n) := below_drewN ((Below.refl _ _).alloc (Nat.le_refl _) _) n

set_option maxHeartbeats 400000 in
/-- A NaN. -/
theorem exact_nan (x : Nat) (hx : ¬ num x) (w : World) :
    Calls Uaig.prog 5 #[.float .f64 x] w fun e w' => e = .returned (.bool true) ∧ Below w.heap.size w w' := by
  have h1 : FloatKind.f64.format.order x x = none := order_nan_left hx x
  have hf := floor_nan x hx w
  clear hx
  go_enter Uaig.func5, Uaig.ntmps5
  go_wp2_with (go_at_call 14; refine hf.mono ?_; rintro e w1 ⟨⟨r, hr, rfl⟩, n, rfl⟩; have h2 : FloatKind.f64.format.order r r = none := order_nan_left hr r; clear hr)
  go_ret
  exact ⟨ret_bool5 rfl, below_one w x n⟩

set_option maxHeartbeats 400000 in
/-- From 2^52 on, the infinities with it. -/
theorem exact_great (x : Nat) (hx : num x) (h : 4503599627370496 * Fl.S ≤ kz x ∨ kz x ≤ -(4503599627370496 * Fl.S)) (w : World) :
    Calls Uaig.prog 5 #[.float .f64 x] w fun e w' => e = .returned (.bool true) ∧ Below w.heap.size w w' := by
  have h1 : FloatKind.f64.format.order x x = some .eq := order_self hx
  have hf := floor_num x hx w
  have h2 : FloatKind.f64.format.order (flo x) x = some .eq := by
    rw [order_num (floor_key x hx).1 hx, floor_great x hx h, Int.compare_eq_eq.2 rfl]
  by_cases hc : 4503599627370496 * Fl.S ≤ kz x
  · have h3 : (FloatKind.f64.format.order x 4841369599423283200 == some .gt || FloatKind.f64.format.order x 4841369599423283200 == some .eq) = true := by
      rw [order_num hx num_c, kz_c]
      rcases Int.lt_or_eq_of_le hc with a | a
      · rw [Int.compare_eq_gt.2 a]; rfl
      · rw [Int.compare_eq_eq.2 a.symm]; rfl
    clear hx h hc
    go_enter Uaig.func5, Uaig.ntmps5
    go_wp2_with (go_at_call 14; refine hf.mono ?_; rintro e w1 ⟨rfl, rfl⟩)
    go_ret
    exact ⟨rfl, below_one w x 0⟩
  · have hc2 : kz x ≤ -(4503599627370496 * Fl.S) := by
      rcases h with a | a
      · exact absurd a hc
      · exact a
    have h3 : FloatKind.f64.format.order x 4841369599423283200 = some .lt := by
      rw [order_num hx num_c, kz_c, Int.compare_eq_lt.2 (Int.not_le.1 hc)]
    have h4 : (FloatKind.f64.format.order x 14064741636278059008 == some .lt || FloatKind.f64.format.order x 14064741636278059008 == some .eq) = true := by
      rw [order_num hx num_c', kz_c']
      rcases Int.lt_or_eq_of_le hc2 with a | a
      · rw [Int.compare_eq_lt.2 a]; rfl
      · rw [Int.compare_eq_eq.2 a]; rfl
    clear hx h hc hc2
    go_enter Uaig.func5, Uaig.ntmps5
    go_wp2_with (go_at_call 14; refine hf.mono ?_; rintro e w1 ⟨rfl, rfl⟩)
    go_ret
    exact ⟨rfl, below_one w x 0⟩

set_option maxHeartbeats 400000 in
/-- A small number, its whole part not above it. -/
theorem exact_small_le (x : Nat) (n : Int) (w : World) (hx : num x) (h3 : FloatKind.f64.format.order x 4841369599423283200 = some .lt) (h4 : FloatKind.f64.format.order x 14064741636278059008 = some .gt)
    (hn : floatToIntVal .f64 x .i64 = some n) (h5 : (FloatKind.f64.format.order (floatOfInt .f64 n) x == some .gt) = false) (h6 : FloatKind.f64.format.order (flo x) (floatOfInt .f64 n) = some .eq) :
    Calls Uaig.prog 5 #[.float .f64 x] w fun e w' => e = .returned (.bool true) ∧ Below w.heap.size w w' := by
  have h1 : FloatKind.f64.format.order x x = some .eq := order_self hx
  have hf := floor_num x hx w
  have hcv := fun w => run_convert_float_int (P := Uaig.prog) w 24 2 .f64 .i64 x n (by rw [Uaig.underlying24]; rfl) Uaig.underlying2 hn
  clear hn
  by_cases hz : (FloatKind.f64.format.order (flo x) 0 == some .eq) = true
  · obtain ⟨v1, v2, q1, q2, q3⟩ := floor_sign x hx hz
    have d1 := fun w => run_float_arith (P := Uaig.prog) w .quo 24 .f64 _ _ v1 q1
    have d2 := fun w => run_float_arith (P := Uaig.prog) w .quo 24 .f64 _ _ v2 q2
    have HQ : Hid (((FloatKind.f64.format.order v1 0 == some .gt) == (FloatKind.f64.format.order v2 0 == some .gt)) = true) := q3
    clear q1 q2 q3 hx
    go_enter Uaig.func5, Uaig.ntmps5
    go_wp2_with (go_at_call 14; refine hf.mono ?_; rintro e w1 ⟨rfl, rfl⟩)
    go_ret
    exact ⟨ret_bool5 HQ.out, below_one w x 0⟩
  · clear hx
    go_enter Uaig.func5, Uaig.ntmps5
    go_wp2_with (go_at_call 14; refine hf.mono ?_; rintro e w1 ⟨rfl, rfl⟩)
    go_ret
    exact ⟨rfl, below_one w x 0⟩

set_option maxHeartbeats 400000 in
theorem exact_small_gt (x t : Nat) (n : Int) (w : World) (hx : num x) (h3 : FloatKind.f64.format.order x 4841369599423283200 = some .lt) (h4 : FloatKind.f64.format.order x 14064741636278059008 = some .gt)
    (hn : floatToIntVal .f64 x .i64 = some n) (h5 : (FloatKind.f64.format.order (floatOfInt .f64 n) x == some .gt) = true) (ht : floatBits .sub .f64 (floatOfInt .f64 n) 4607182418800017408 = some t) (h6 : FloatKind.f64.format.order (flo x) t = some .eq) :
    Calls Uaig.prog 5 #[.float .f64 x] w fun e w' => e = .returned (.bool true) ∧ Below w.heap.size w w' := by
  have h1 : FloatKind.f64.format.order x x = some .eq := order_self hx
  have hf := floor_num x hx w
  have hcv := fun w => run_convert_float_int (P := Uaig.prog) w 24 2 .f64 .i64 x n (by rw [Uaig.underlying24]; rfl) Uaig.underlying2 hn
  have hsub := fun w => run_float_arith (P := Uaig.prog) w .sub 24 .f64 _ _ t ht
  clear hn ht
  by_cases hz : (FloatKind.f64.format.order (flo x) 0 == some .eq) = true
  · obtain ⟨v1, v2, q1, q2, q3⟩ := floor_sign x hx hz
    have d1 := fun w => run_float_arith (P := Uaig.prog) w .quo 24 .f64 _ _ v1 q1
    have d2 := fun w => run_float_arith (P := Uaig.prog) w .quo 24 .f64 _ _ v2 q2
    have HQ : Hid (((FloatKind.f64.format.order v1 0 == some .gt) == (FloatKind.f64.format.order v2 0 == some .gt)) = true) := q3
    clear q1 q2 q3 hx
    go_enter Uaig.func5, Uaig.ntmps5
    go_wp2_with (go_at_call 14; refine hf.mono ?_; rintro e w1 ⟨rfl, rfl⟩)
    go_ret
    exact ⟨ret_bool5 HQ.out, below_one w x 0⟩
  · clear hx
    go_enter Uaig.func5, Uaig.ntmps5
    go_wp2_with (go_at_call 14; refine hf.mono ?_; rintro e w1 ⟨rfl, rfl⟩)
    go_ret
    exact ⟨rfl, below_one w x 0⟩

/-- A number below 2^52. -/
theorem exact_small (x : Nat) (hx : num x) (h1 : kz x < 4503599627370496 * Fl.S) (h2 : -(4503599627370496 * Fl.S) < kz x) (w : World) :
    Calls Uaig.prog 5 #[.float .f64 x] w fun e w' => e = .returned (.bool true) ∧ Below w.heap.size w w' := by
  have h3 : FloatKind.f64.format.order x 4841369599423283200 = some .lt := by rw [order_num hx num_c, kz_c, Int.compare_eq_lt.2 h1]
  have h4 : FloatKind.f64.format.order x 14064741636278059008 = some .gt := by rw [order_num hx num_c', kz_c', Int.compare_eq_gt.2 h2]
  obtain ⟨n, hn, n1, n2, hgt, hle⟩ := small_trunc x hx h1 h2
  obtain ⟨s, m, i, e, hg, hk⟩ := float_of_int n n1 n2
  obtain ⟨hf1, hf2⟩ := floor_key x hx
  have ht : num (floatOfInt .f64 n) := good_num (by rw [e]; exact hg)
  have htk : kz (floatOfInt .f64 n) = n * Fl.S := by unfold kz; rw [e, hk]
  by_cases hc : kz x < n * Fl.S
  · obtain ⟨n0, hfl⟩ := hgt hc
    obtain ⟨t, q1, q2, q3⟩ := sub_one (floatOfInt .f64 n) n s m i e hg hk n0 n1
    refine exact_small_gt x t n w hx h3 h4 hn ?_ q1 ?_
    · rw [order_num ht hx, htk, Int.compare_eq_gt.2 hc]; rfl
    · rw [order_num hf1 q2, hf2, hfl, q3, Int.compare_eq_eq.2 rfl]
  · have hfl := hle (Int.not_lt.1 hc)
    refine exact_small_le x n w hx h3 h4 hn ?_ ?_
    · rw [order_num ht hx, htk]
      rcases Int.lt_or_eq_of_le (Int.not_lt.1 hc) with a | a
      · rw [Int.compare_eq_lt.2 a]; rfl
      · rw [Int.compare_eq_eq.2 a]; rfl
    · rw [order_num hf1 ht, hf2, hfl, htk, Int.compare_eq_eq.2 rfl]

theorem exact_any (x : Nat) (w : World) :
    Calls Uaig.prog 5 #[.float .f64 x] w fun e w' => e = .returned (.bool true) ∧ Below w.heap.size w w' := by
  by_cases hx : num x
  · by_cases h1 : 4503599627370496 * Fl.S ≤ kz x
    · exact exact_great x hx (.inl h1) w
    · by_cases h2 : kz x ≤ -(4503599627370496 * Fl.S)
      · exact exact_great x hx (.inr h2) w
      · exact exact_small x hx (Int.not_le.1 h1) (Int.not_le.1 h2) w
  · exact exact_nan x hx w
end Go.Proofs.Youaiw
