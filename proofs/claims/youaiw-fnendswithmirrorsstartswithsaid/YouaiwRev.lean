import Derived.Test.YouaiwCopyF
import Derived.Laws.BytesArg
namespace Go.Proofs.Youaiw
open Go.RowKit

/-- The bytes, turned round. -/
def rev (s : ByteArray) : ByteArray := ⟨s.data.reverse⟩

theorem rev_toList (s : ByteArray) : (rev s).data.toList = s.data.toList.reverse := by simp [rev]

/-- The number at place j of the row that zzRevBytes fills. -/
def rv (s : ByteArray) (j : Nat) : Int := ((s.data.toList.getD (s.size - 1 - j) 0).toNat : Int)

theorem rv_at (s : ByteArray) (k : Nat) (h : k < s.size) : rv s (s.size - 1 - k) = (s[k].toNat : Int) := by
  unfold rv
  have hl : s.data.toList.length = s.size := by simp
  rw [show s.size - 1 - (s.size - 1 - k) = k by omega, List.getD, List.getElem?_eq_getElem (by omega)]
  rfl

/-- The row when k bytes have been laid, from the end on. -/
def back (n : Nat) (f : Nat → Value) (z : Value) (k : Nat) : Nat → Value := fun j => if n - k ≤ j then f j else z

theorem back_step {w : World} {b : Nat} {t : TypeId} {n : Nat} {f : Nat → Value} {z : Value} {k : Nat} (hk : k < n) (h : w.rowIs b t n (back n f z k)) :
    (w.setCell ⟨b, n - 1 - k, none⟩ (f (n - 1 - k))).rowIs b t n (back n f z (k + 1)) := by
  refine (h.set (n - 1 - k) (f (n - 1 - k))).congr fun j hj => ?_
  unfold back
  by_cases e : j = n - 1 - k
  · subst e
    rw [if_pos rfl, if_pos (by omega)]
  · rw [if_neg e]
    by_cases hle : n - k ≤ j
    · rw [if_pos hle, if_pos (by omega)]
    · rw [if_neg hle, if_neg (by omega)]

theorem back_made (w : World) (z : Value) (n : Nat) (t : TypeId) (f : Nat → Value) : (w.alloc (.cells (madeCells #[z] n) t)).rowIs w.heap.size t n (back n f z 0) :=
  (World.rowIs_made w z n t).congr fun j hj => by
    unfold back
    rw [if_neg (by omega)]

theorem back_all {w : World} {b : Nat} {t : TypeId} {n : Nat} {f : Nat → Value} {z : Value} (h : w.rowIs b t n (back n f z n)) : w.rowIs b t n f :=
  h.congr fun j _ => by
    unfold back
    rw [if_pos (by omega)]

def nums (s : ByteArray) : List Int := (List.range s.size).map (rv s)

theorem nums_length (s : ByteArray) : (nums s).length = s.size := by simp [nums]
theorem nums_getD (s : ByteArray) (i : Nat) (h : i < s.size) : (nums s).getD i 0 = rv s i := by simp [nums, List.getD, h]

theorem nums_rev (s : ByteArray) : strOfNums (nums s) = rev s := by
  have hl : s.data.toList.length = s.size := by simp
  have e : (strOfNums (nums s)).data.toList = (rev s).data.toList := by
    rw [rev_toList, strOfNums_data]
    apply List.ext_getElem
    · simp [nums]
    · intro i h1 h2
      simp only [nums, List.map_map, List.getElem_map, List.getElem_range, Function.comp, rv, Int.toNat_natCast, List.getElem_reverse]
      have hi : i < s.size := by simpa [nums] using h1
      rw [List.getD, List.getElem?_eq_getElem (by omega)]
      simp only [Option.getD_some, UInt8.ofNat_toNat]
      congr 1
  cases h1 : strOfNums (nums s) with
  | mk d1 =>
    cases h2 : rev s with
    | mk d2 =>
      rw [h1, h2] at e
      have : d1 = d2 := Array.toList_inj.1 e
      rw [this]

theorem info5 : (Uaig.prog.info? 5).map (fun i => (i.zero, i.size, i.bytes)) = some (some (.int .u8 0), 1, 1) := by kernel_rfl

set_option maxHeartbeats 400000 in
theorem revBytes_any (s : ByteArray) (w : World) (hs : s.size ≤ 1048576) :
    Calls Uaig.prog 13 #[.string s] w fun e w' => e = .returned (.string (rev s)) ∧ Below w.heap.size w w' := by
  have hmk := run_make_row' (P := Uaig.prog) 44 5 (.int .u8 0) 1 Uaig.underlying44 info5 rfl .i64 .i64 s.size (by omega) (by omega)
  go_enter Uaig.func13, Uaig.ntmps13
  go_wp2
  go_loopw [4] (fun i wr => ∃ k : Nat, k ≤ s.size ∧ i = .int .i64 k ∧ Below w.heap.size w wr ∧ Hid (wr.rowIs w.heap.size 5 s.size (back s.size (fun j => .int .u8 (rv s j)) (.int .u8 0) k))) (fun i _ => s.size - (intOf i).toNat)
  case atStart => exact ⟨0, Nat.zero_le _, rfl, (Below.refl _ _).alloc (Nat.le_refl _) _, back_made ..⟩
  case round =>
    obtain ⟨k, hk, rfl, hb, hR⟩ := hrel
    by_cases hlt : k < s.size
    · have h2 := hR.out.cell (i := s.size - 1 - k) (by omega)
      have h3 := hR.out.frozen (s.size - 1 - k)
      have hi1 : (0 : Int) ≤ (s.size : Int) - 1 - (k : Int) := by omega
      have hi2 : (s.size : Int) - 1 - (k : Int) < (s.size : Int) := by omega
      have HV : Hid (rv s (s.size - 1 - k) = (s[k].toNat : Int)) := rv_at s k hlt
      go_wp2
      go_roundw
      case rel =>
        refine ⟨k + 1, by omega, by go_num, hb.setCell (Nat.le_refl _) _, ?_⟩
        have hstep := back_step hlt hR.out
        rw [HV.out] at hstep
        exact hstep
      case measure => simp [intOf]; omega
    · have hk' : k = s.size := by omega
      subst hk'
      have hrow := back_all hR.out
      have hcv := run_convert_bytes_arg (P := Uaig.prog) wr 44 5 Uaig.underlying44 Uaig.underlying5 w.heap.size 0 s.size s.size (nums s) (nums_length s)
        (fun i hi => by rw [nums_getD s i hi, Nat.zero_add]; exact hrow.cell hi) 9 Uaig.underlying9
      rw [nums_rev] at hcv
      clear hrow
      go_wp2
      go_ret
      exact ⟨rfl, hb⟩
end Go.Proofs.Youaiw
