import Derived.Test.YouaiwFloorPlain
namespace Go.Proofs.Youaiw
open Ieee

/-- A quiet fraction is never nought. -/
theorem quiet_ne (t : Nat) : double.quiet t % 4503599627370496 ≠ 0 := by
  intro h
  have h1 : (double.quiet t % 2 ^ 52).testBit 51 = true := by
    rw [Nat.testBit_mod_two_pow]
    unfold Format.quiet
    rw [Nat.testBit_or]
    have : (2 ^ (double.fractionBits - 1)).testBit 51 = true := by decide +kernel
    rw [this]
    simp
  have h2 : double.quiet t % 2 ^ 52 = 0 := h
  rw [h2] at h1
  simp at h1

theorem quiet_nan (s : Bool) (t : Nat) : ¬ num (double.write (.nan s (double.quiet t))) := by
  intro h
  have hg := num_good h
  have hq := quiet_ne t
  have hlt : double.quiet t % 4503599627370496 < 4503599627370496 := Nat.mod_lt _ (by decide)
  simp only [Format.write, Fl.infRung_eq, Fl.binade_eq] at hg
  generalize double.quiet t % 4503599627370496 = r at hq hlt hg
  rw [Fl.read_word s _ (by omega), if_neg (by omega), if_neg (by omega), if_neg (by omega)] at hg
  exact hg
end Go.Proofs.Youaiw
