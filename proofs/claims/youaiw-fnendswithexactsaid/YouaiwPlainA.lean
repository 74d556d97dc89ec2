import Derived.Lib.Strings
namespace Go.Proofs.Youaiw

/-! The plain law of ends_with: no Go in sight. -/
theorem suffix_true (s p : ByteArray) (hle : p.size ≤ s.size)
    (h : ∀ j, j < p.size → s.data.toList[s.size - p.size + j]? = p.data.toList[j]?) : Lib.hasSuffix s.data.toList p.data.toList = true := by
  unfold Lib.hasSuffix
  rw [List.isSuffixOf_iff_suffix]
  refine List.suffix_iff_eq_drop.2 ?_
  have hs : s.data.toList.length = s.size := by simp
  have hp : p.data.toList.length = p.size := by simp
  apply List.ext_getElem?
  intro j
  rw [List.getElem?_drop, hs, hp]
  by_cases hj : j < p.size
  · exact (h j hj).symm
  · rw [List.getElem?_eq_none (by omega), List.getElem?_eq_none (by omega)]

theorem suffix_false (s p : ByteArray) (k : Nat) (hk : k < p.size) (hk' : s.size - p.size + k < s.size)
    (h : ((s[s.size - p.size + k].toNat : Int) != (p[k].toNat : Int)) = true) : Lib.hasSuffix s.data.toList p.data.toList = false := by
  cases hb : Lib.hasSuffix s.data.toList p.data.toList with
  | false => rfl
  | true =>
    exfalso
    unfold Lib.hasSuffix at hb
    rw [List.isSuffixOf_iff_suffix, List.suffix_iff_eq_drop] at hb
    have hs : s.data.toList.length = s.size := by simp
    have hp : p.data.toList.length = p.size := by simp
    have e : p.data.toList[k]? = s.data.toList[s.size - p.size + k]? := by
      rw [hb, List.getElem?_drop, hs, hp]
    have e1 : p.data.toList[k]? = some p[k] := by
      rw [List.getElem?_eq_getElem (by omega)]; rfl
    have e2 : s.data.toList[s.size - p.size + k]? = some s[s.size - p.size + k] := by
      rw [List.getElem?_eq_getElem (by omega)]; rfl
    rw [e1, e2] at e
    injection e with e
    rw [e] at h
    simp at h

theorem suffix_long (s p : ByteArray) (h : s.size < p.size) : Lib.hasSuffix s.data.toList p.data.toList = false := by
  cases hb : Lib.hasSuffix s.data.toList p.data.toList with
  | false => rfl
  | true =>
    exfalso
    unfold Lib.hasSuffix at hb
    rw [List.isSuffixOf_iff_suffix] at hb
    have := hb.length_le
    have hs : s.data.toList.length = s.size := by simp
    have hp : p.data.toList.length = p.size := by simp
    omega

theorem match_step (s p : ByteArray) (k : Nat) (hk : k < p.size) (hk' : s.size - p.size + k < s.size)
    (hm : ∀ j, j < k → s.data.toList[s.size - p.size + j]? = p.data.toList[j]?)
    (h : ((s[s.size - p.size + k].toNat : Int) != (p[k].toNat : Int)) = false) :
    ∀ j, j < k + 1 → s.data.toList[s.size - p.size + j]? = p.data.toList[j]? := by
  intro j hj
  by_cases hjk : j < k
  · exact hm j hjk
  · have : j = k := by omega
    subst this
    have hs : s.data.toList.length = s.size := by simp
    have hp : p.data.toList.length = p.size := by simp
    have e1 : p.data.toList[j]? = some p[j] := by
      rw [List.getElem?_eq_getElem (by omega)]; rfl
    have e2 : s.data.toList[s.size - p.size + j]? = some s[s.size - p.size + j] := by
      rw [List.getElem?_eq_getElem (by omega)]; rfl
    rw [e1, e2]
    congr 1
    have hn : (s[s.size - p.size + j].toNat : Int) = (p[j].toNat : Int) := by simpa using h
    exact UInt8.toNat_inj.1 (by omega)
end Go.Proofs.Youaiw
