import Derived.Test.YouaiwMaxS2
namespace Go.Proofs.Youaiw
open Go.RowKit
set_option linter.unusedVariables false

theorem ret_bool3 {a b : Bool} (h : a = b) : Ending.returned (.bool a) = .returned (.bool b) := by rw [h]

set_option maxHeartbeats 400000 in
theorem zzBytes18_empty (ao : Option Addr) (cap : Nat) (w : World) :
    Calls Uaig.prog 18 #[.slice ao 0 cap] w fun e w' => e = .returned (.bool true) ∧ w = w' := by
  go_enter Uaig.func18, Uaig.ntmps18
  go_wp2
  go_loop [4] (fun i => i = .int .i64 0) (fun _ => 0)
  case atStart => rfl
  case round =>
    subst hrel
    go_wp2
    go_ret
    exact ⟨rfl, rfl⟩

/-- One bool or the other. -/
def SomeBool (e : Ending) : Prop := ∃ b, e = .returned (.bool b)

set_option maxHeartbeats 400000 in
/-- The bound on the lengths: some bool; nothing is written. -/
theorem zzBytes18_any (b off len cap : Nat) (s : Nat → ByteArray) (w : World) (hm : len ≤ maxLen)
    (hc : ∀ i, i < len → w.cell? ⟨b, off + i, none⟩ = some (.string (s i))) :
    Calls Uaig.prog 18 #[.slice (some ⟨b, off, none⟩) len cap] w fun e w' => SomeBool e ∧ w = w' := by
  unfold maxLen at hm
  by_cases hbig : len ≤ 1048576
  · go_enter Uaig.func18, Uaig.ntmps18
    go_wp2
    go_loop [3, 4] (fun t i => ∃ (k : Nat) (x : Int), k ≤ len ∧ i = .int .i64 k ∧ t = .int .i64 x) (fun _ i => len - (intOf i).toNat)
    case atStart => exact ⟨0, _, Nat.zero_le _, rfl, rfl⟩
    case round =>
      obtain ⟨k, x, hk, rfl, rfl⟩ := hrel
      by_cases hlt : k < len
      · have h1 := hc k hlt
        go_wp2
        · go_ret
          exact ⟨⟨_, rfl⟩, rfl⟩
        · go_ret
          exact ⟨⟨_, rfl⟩, rfl⟩
        · go_round
          case rel => exact ⟨k + 1, _, by omega, by go_num, rfl⟩
          case measure => simp [intOf]; omega
      · go_wp2
        go_ret
        exact ⟨⟨_, rfl⟩, rfl⟩
  · go_enter Uaig.func18, Uaig.ntmps18
    go_wp2
    go_ret
    exact ⟨⟨_, rfl⟩, rfl⟩

set_option maxHeartbeats 400000 in
theorem maxS_nil (w : World) :
    Calls Uaig.prog 8 #[.slice none 0 0] w fun e w' => e = .returned (.bool true) ∧ Below w.heap.size w w' := by
  have hc := zzBytes18_empty none 0 w
  have hcp := copyStrings_nil w
  have hm := maxStr_empty none 0 w
  go_enter Uaig.func8, Uaig.ntmps8
  go_wp2_with (go_at_call 18; refine hc.mono ?_; rintro e w' ⟨rfl, rfl⟩)
  go_loop [4] (fun i => i = .int .i64 0) (fun _ => 0)
  case atStart => rfl
  case round =>
    subst hrel
    go_wp2_with (first | (go_at_call 19; refine hcp.mono ?_; rintro e w' ⟨rfl, rfl⟩) | (go_at_call 20; refine hm.mono ?_; rintro e w' ⟨rfl, hb⟩))
    go_ret
    exact ⟨rfl, hb⟩

set_option maxHeartbeats 400000 in
theorem maxS_empty (a : Addr) (cap : Nat) (w : World) :
    Calls Uaig.prog 8 #[.slice (some a) 0 cap] w fun e w' => e = .returned (.bool true) ∧ Below w.heap.size w w' := by
  have hc := zzBytes18_empty (some a) cap w
  have hcp := copyStrings_empty a cap w
  go_enter Uaig.func8, Uaig.ntmps8
  go_wp2_with (go_at_call 18; refine hc.mono ?_; rintro e w' ⟨rfl, rfl⟩)
  go_loop [4] (fun i => i = .int .i64 0) (fun _ => 0)
  case atStart => rfl
  case round =>
    subst hrel
    go_wp2_with (first | (go_at_call 19; refine hcp.mono ?_; rintro e w1 ⟨rfl, hb1⟩) | (go_at_call 20; refine (maxStr_empty _ _ _).mono ?_; rintro e w' ⟨rfl, hb⟩))
    go_ret
    exact ⟨rfl, hb1.trans (hb.mono hb1.size)⟩

set_option maxHeartbeats 400000 in
theorem maxS_big (b off len cap : Nat) (s : Nat → ByteArray) (w : World) (h : 131072 < len) (hm : len ≤ maxLen)
    (hc : ∀ i, i < len → w.cell? ⟨b, off + i, none⟩ = some (.string (s i))) :
    Calls Uaig.prog 8 #[.slice (some ⟨b, off, none⟩) len cap] w fun e w' => e = .returned (.bool true) ∧ Below w.heap.size w w' := by
  have hz := zzBytes18_any b off len cap s w hm hc
  unfold maxLen at hm
  go_enter Uaig.func8, Uaig.ntmps8
  go_wp2_with (go_at_call 18; refine hz.mono ?_; rintro e w' ⟨⟨bb, rfl⟩, rfl⟩)
  all_goals
    go_ret
    exact ⟨rfl, Below.refl _ _⟩

set_option maxHeartbeats 400000 in
theorem maxS_any (b off len cap : Nat) (s : Nat → ByteArray) (w : World) (h1 : 1 ≤ len) (hlen : len ≤ 131072) (hs : ∀ i, (s i).size ≤ maxLen)
    (hc : ∀ i, i < len → w.cell? ⟨b, off + i, none⟩ = some (.string (s i))) :
    Calls Uaig.prog 8 #[.slice (some ⟨b, off, none⟩) len cap] w fun e w' => e = .returned (.bool true) ∧ Below w.heap.size w w' := by
  have hz := zzBytes18_any b off len cap s w (by unfold maxLen; omega) hc
  have hcp := copyStrings_any b off len cap s w hlen hc
  have e0 : ((len : Int) == 0) = false := by simp; omega
  obtain ⟨p, hp, hbp⟩ := bestS_is s (len - 1)
  have HT : Hid (∀ j, j < len → Op.bytesLess (bestS s (len - 1)).data.toList (s j).data.toList = false) := fun j hj => bestS_top s (len - 1) j (by omega)
  have HP : Hid (bestS s (len - 1) = s p) := hbp
  have HS : Hid (∀ i, (s i).size ≤ maxLen) := hs
  have HC : Hid (∀ i, i < len → w.cell? ⟨b, off + i, none⟩ = some (.string (s i))) := hc
  clear hbp hs hc
  go_enter Uaig.func8, Uaig.ntmps8
  go_wp2_with (go_at_call 18; refine hz.mono ?_; rintro e w' ⟨⟨bb, rfl⟩, rfl⟩)
  · go_ret
    exact ⟨rfl, Below.refl _ _⟩
  · go_loop [3, 4] (fun t i => ∃ (k : Nat) (x : Int), k ≤ len ∧ i = .int .i64 k ∧ t = .int .i64 x) (fun _ i => len - (intOf i).toNat)
    case atStart => exact ⟨0, _, Nat.zero_le _, rfl, rfl⟩
    case round =>
      obtain ⟨k, x, hk, rfl, rfl⟩ := hrel
      by_cases hlt : k < len
      · have h1 := HC.out k hlt
        go_wp2
        · go_ret
          exact ⟨rfl, Below.refl _ _⟩
        · go_round
          case rel => exact ⟨k + 1, _, by omega, by go_num, rfl⟩
          case measure => simp [intOf]; omega
      · go_wp2_with (first | (go_at_call 19; refine hcp.mono ?_; rintro e w1 ⟨rfl, hb1, hr1⟩) | (go_at_call 20; refine (maxStr_any w.heap.size len s w1 hlen h1 hr1).mono ?_; rintro e w2 ⟨rfl, hb2⟩))
        have hcells : Hid (∀ j, j < len → w2.cell? ⟨w.heap.size, j, none⟩ = some (.string (s j))) := fun j hj => (hb2.cell (by exact hr1.lt)).trans (hr1.cell hj)
        have hbl : Below w.heap.size w w2 := hb1.trans (hb2.mono hb1.size)
        have hbs : Hid ((bestS s (len - 1)).size ≤ maxLen) := by rw [HP.out]; exact HS.out p
        go_loopw [7, 8] (fun fv i wr => ∃ (k n : Nat) (f : Bool), k ≤ len ∧ i = .int .i64 k ∧ fv = .bool f ∧ wr = w2.drewN n ∧ Hid (p < k → f = true)) (fun _ i _ => len - (intOf i).toNat)
        case atStart => exact ⟨0, 0, false, Nat.zero_le _, rfl, rfl, rfl, fun h => absurd h (Nat.not_lt_zero _)⟩
        case round =>
          obtain ⟨k, n, f, hk, rfl, rfl, rfl, hf⟩ := hrel
          by_cases hlt : k < len
          · have hck := hcells.out k hlt
            have hl := strLess_any (bestS s (len - 1)) (s k) (w2.drewN n) hbs.out (HS.out k)
            rw [HT.out k hlt] at hl
            cases hq : ((s k).toList == (bestS s (len - 1)).toList) with
            | true =>
              go_wp2_with (go_at_call 21; refine hl.mono ?_; rintro e w3 ⟨n', rfl, rfl⟩)
              go_roundw
              case rel => exact ⟨k + 1, _, true, by omega, by go_num, rfl, rfl, fun _ => rfl⟩
              case measure => simp [intOf]; omega
            | false =>
              have HN : Hid (p ≠ k) := by
                intro e
                subst e
                rw [HP.out] at hq
                simp at hq
              go_wp2_with (go_at_call 21; refine hl.mono ?_; rintro e w3 ⟨n', rfl, rfl⟩)
              go_roundw
              case rel => exact ⟨k + 1, _, f, by omega, by go_num, rfl, rfl, fun h => hf.out (by have := HN.out; omega)⟩
              case measure => simp [intOf]; omega
          · obtain rfl : f = true := hf.out (by omega)
            go_wp2
            go_ret
            exact ⟨rfl, below_drewN hbl _⟩
end Go.Proofs.Youaiw
