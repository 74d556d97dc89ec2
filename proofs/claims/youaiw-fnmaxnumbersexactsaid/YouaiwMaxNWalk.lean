import Derived.Test.YouaiwMaxN
import Derived.Deep.QuietTactic
import Derived.BigQuiet
namespace Go.Proofs.Youaiw
open Go.RowKit

theorem eql_bool4 (a b : Bool) (w : World) : (binOp .eql 4 (.bool a) (.bool b)).run Uaig.prog w = .ok (.bool (a == b)) w := by kernel_rfl

attribute [local go_sem] eql_bool4

theorem ret_bool' {a b : Bool} (h : a = b) : Ending.returned (.bool a) = .returned (.bool b) := by rw [h]

theorem geq_true {q : Nat} {a b : Bool} (h : (q : Int) < 0 ∨ a = true ∨ b = true) : (a || b) = true := by
  rcases h with h | h | h
  · omega
  · simp [h]
  · simp [h]

theorem geq_false {q : Nat} {a b : Bool} (h : 0 ≤ (q : Int) ∧ a = false ∧ b = false) : (a || b) = false := by
  simp [h.2.1, h.2.2]

set_option maxHeartbeats 400000 in
theorem maxN_big (ao : Option Addr) (len cap : Nat) (w : World) (h : 65536 < len) (hm : len ≤ maxLen) :
    Calls Uaig.prog 7 #[.slice ao len cap] w fun e w' => e = .returned (.bool true) ∧ Below w.heap.size w w' := by
  unfold maxLen at hm
  by_cases h2 : len ≤ 1048576
  · have hc := zzBytes15_yes ao len cap w h2
    go_enter Uaig.func7, Uaig.ntmps7
    go_wp2_with (go_at_call 15; refine hc.mono ?_; rintro e w' ⟨rfl, rfl⟩)
    go_ret
    exact ⟨rfl, Below.refl _ _⟩
  · have hc := zzBytes15_no ao len cap w (by omega)
    go_enter Uaig.func7, Uaig.ntmps7
    go_wp2_with (go_at_call 15; refine hc.mono ?_; rintro e w' ⟨rfl, rfl⟩)
    go_ret
    exact ⟨rfl, Below.refl _ _⟩

set_option maxHeartbeats 400000 in
theorem maxN_nil (w : World) :
    Calls Uaig.prog 7 #[.slice none 0 0] w fun e w' => e = .returned (.bool true) ∧ Below w.heap.size w w' := by
  have hc := zzBytes15_yes none 0 0 w (by omega)
  have hcp := copyFloats_nil w
  have hm := maxNum_empty none 0 w
  go_enter Uaig.func7, Uaig.ntmps7
  go_wp2_with (first | (go_at_call 15; refine hc.mono ?_; rintro e w' ⟨rfl, rfl⟩) | (go_at_call 16; refine hcp.mono ?_; rintro e w' ⟨rfl, rfl⟩) | (go_at_call 17; refine hm.mono ?_; rintro e w' ⟨rfl, hb⟩))
  go_ret
  exact ⟨rfl, hb⟩

set_option maxHeartbeats 400000 in
theorem maxN_empty (a : Addr) (cap : Nat) (w : World) :
    Calls Uaig.prog 7 #[.slice (some a) 0 cap] w fun e w' => e = .returned (.bool true) ∧ Below w.heap.size w w' := by
  have hc := zzBytes15_yes (some a) 0 cap w (by omega)
  have hcp := copyFloats_empty a cap w
  go_enter Uaig.func7, Uaig.ntmps7
  go_wp2_with (first | (go_at_call 15; refine hc.mono ?_; rintro e w' ⟨rfl, rfl⟩) | (go_at_call 16; refine hcp.mono ?_; rintro e w1 ⟨rfl, hb1⟩) | (go_at_call 17; refine (maxNum_empty _ _ _).mono ?_; rintro e w' ⟨rfl, hb⟩))
  go_ret
  exact ⟨rfl, hb1.trans (hb.mono hb1.size)⟩

/-- The first is a NaN: so is the answer. -/
theorem maxN_nan (b off len cap : Nat) (z : Nat → Nat) (w : World) (h1 : 1 ≤ len) (hlen : len ≤ 65536) (h0 : ¬ num (z 0))
    (hc : ∀ i, i < len → w.cell? ⟨b, off + i, none⟩ = some (.float .f64 (z i))) :
    Calls Uaig.prog 7 #[.slice (some ⟨b, off, none⟩) len cap] w fun e w' => e = .returned (.bool true) ∧ Below w.heap.size w w' := by
  have hz := zzBytes15_yes (some ⟨b, off, none⟩) len cap w (by omega)
  have hcp := copyFloats_any b off len cap z w hlen hc
  have hn : FloatKind.f64.format.order (z 0) (z 0) = none := order_nan_left h0 _
  have hbst := best_nan z h0 (len - 1)
  have e0 : ((len : Int) == 0) = false := by simp; omega
  have hp : (0 : Int) < (len : Int) := by omega
  clear h0 hc
  go_enter Uaig.func7, Uaig.ntmps7
  go_wp2_with (first | (go_at_call 15; refine hz.mono ?_; rintro e w' ⟨rfl, rfl⟩) | (go_at_call 16; refine hcp.mono ?_; rintro e w1 ⟨rfl, hb1, hr1⟩) | (go_at_call 17; refine (maxNum_any w.heap.size len z w1 hlen h1 hr1).mono ?_; rintro e w2 ⟨rfl, hb2⟩; have hcell : w2.cell? ⟨w.heap.size, 0, none⟩ = some (.float .f64 (z 0)) := (hb2.cell (by exact hr1.lt)).trans (hr1.cell (by omega))))
  go_quiet (fail)
  go_wp2
  go_ret
  exact ⟨rfl, below_drewN (hb1.trans (hb2.mono hb1.size)) _⟩

set_option maxHeartbeats 400000 in
theorem maxN_any (b off len cap : Nat) (z : Nat → Nat) (w : World) (h1 : 1 ≤ len) (hlen : len ≤ 65536) (h0 : num (z 0))
    (hc : ∀ i, i < len → w.cell? ⟨b, off + i, none⟩ = some (.float .f64 (z i))) :
    Calls Uaig.prog 7 #[.slice (some ⟨b, off, none⟩) len cap] w fun e w' => e = .returned (.bool true) ∧ Below w.heap.size w w' := by
  have hz := zzBytes15_yes (some ⟨b, off, none⟩) len cap w (by omega)
  have hcp := copyFloats_any b off len cap z w hlen hc
  have hs0 : FloatKind.f64.format.order (z 0) (z 0) = some .eq := order_self h0
  have e0 : ((len : Int) == 0) = false := by simp; omega
  have hp : (0 : Int) < (len : Int) := by omega
  have H0 : Hid (num (z 0)) := h0
  clear hc h0
  go_enter Uaig.func7, Uaig.ntmps7
  go_wp2_with (first | (go_at_call 15; refine hz.mono ?_; rintro e w' ⟨rfl, rfl⟩) | (go_at_call 16; refine hcp.mono ?_; rintro e w1 ⟨rfl, hb1, hr1⟩) | (go_at_call 17; refine (maxNum_any w.heap.size len z w1 hlen h1 hr1).mono ?_; rintro e w2 ⟨rfl, hb2⟩; have hcell : w2.cell? ⟨w.heap.size, 0, none⟩ = some (.float .f64 (z 0)) := (hb2.cell (by exact hr1.lt)).trans (hr1.cell (by omega))))
  go_quiet (fail)
  go_wp2
  have hcells : Hid (∀ j, j < len → w2.cell? ⟨w.heap.size, j, none⟩ = some (.float .f64 (z j))) := fun j hj => (hb2.cell (by exact hr1.lt)).trans (hr1.cell hj)
  have hbl : Below w.heap.size w (w2.drewN nq) := below_drewN (hb1.trans (hb2.mono hb1.size)) _
  clear hcell hs0
  go_loop [5, 6] (fun kv i => ∃ (m : Nat) (kk : Int), m ≤ len ∧ i = .int .i64 ((m : Int) - 1) ∧ kv = .int .i64 kk ∧ Hid (Scan z len m kk)) (fun _ i => (intOf i + 1).toNat)
  case atStart => exact ⟨len, -1, Nat.le_refl _, rfl, rfl, scan_start z len⟩
  case round =>
    obtain ⟨m, kk, hm, hi, rfl, hS⟩ := hrel
    rcases m with _ | m
    · obtain rfl : u6 = .int .i64 (-1) := hi
      obtain ⟨q, hkq, hq, hnq, hbst⟩ := scan_end h1 H0.out hS.out
      subst hkq
      have hcq := hcells.out q hq
      have hsq := order_self hnq
      clear hnq
      by_cases hzero : (FloatKind.f64.format.order (z q) 0 == some .eq) = true
      · obtain ⟨r, hr⟩ := one_over_zero (z q) hzero
        have hdiv := fun w => run_float_arith (P := Uaig.prog) w .quo 24 .f64 _ _ r hr
        clear hr
        go_wp2
        go_ret
        exact ⟨ret_bool' (by simp), hbl⟩
      · go_wp2
        go_ret
        exact ⟨rfl, hbl⟩
    · obtain rfl : u6 = .int .i64 (m : Int) := by rw [hi]; congr 1; omega
      clear hi
      have hcm := hcells.out m (by omega)
      by_cases hnm : (FloatKind.f64.format.order (z m) (z m) != some .eq) = false
      · have HN : Hid (num (z m)) := hnm
        rcases hS.out with ⟨rfl, hall⟩ | ⟨q, rfl, hF⟩
        · have HA := scan_new_none (by omega) hall HN.out
          clear hall
          go_wp2
          go_round
          case rel => exact ⟨m, m, by omega, rfl, rfl, HA⟩
          case measure => simp [intOf]
        · have hql : q < len := hF.2.1
          have hcq := hcells.out q hql
          have HF : Hid (First z (m + 1) len q) := hF
          clear hF
          go_wp2
          · have hx : (q : Int) < 0 ∨ (FloatKind.f64.format.order (z m) (z q) == some .gt) = true ∨ (FloatKind.f64.format.order (z m) (z q) == some .eq) = true := by assumption
            have hg := geq_true hx
            go_round
            case rel => exact ⟨m, m, by omega, rfl, rfl, scan_new_some (by omega) HF.out HN.out hg⟩
            case measure => simp [intOf]
          · have hx : 0 ≤ (q : Int) ∧ (FloatKind.f64.format.order (z m) (z q) == some .gt) = false ∧ (FloatKind.f64.format.order (z m) (z q) == some .eq) = false := by assumption
            have hg := geq_false hx
            go_round
            case rel => exact ⟨m, q, by omega, rfl, rfl, scan_old_some HF.out HN.out hg⟩
            case measure => simp [intOf]
      · have HN : Hid (¬ num (z m)) := hnm
        have hnt : (FloatKind.f64.format.order (z m) (z m) != some .eq) = true := by simpa using hnm
        clear hnm
        go_wp2
        go_round
        case rel =>
          refine ⟨m, kk, by omega, rfl, rfl, ?_⟩
          rcases hS.out with ⟨rfl, hall⟩ | ⟨q, rfl, hF⟩
          · exact scan_nan_none hall HN.out
          · exact scan_nan_some hF HN.out
        case measure => simp [intOf]
end Go.Proofs.Youaiw
