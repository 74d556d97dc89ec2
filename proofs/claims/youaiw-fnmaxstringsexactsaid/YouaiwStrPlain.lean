import Derived.Lib.Strings
namespace Go.Proofs.Youaiw

/-! The byte order on strings: no Go in sight. -/
theorem less_cons_same (a : UInt8) (x y : List UInt8) : Op.bytesLess (a :: x) (a :: y) = Op.bytesLess x y := by
  have h : ¬ a < a := UInt8.lt_irrefl a
  simp [Op.bytesLess, h]

theorem less_irrefl : ∀ x : List UInt8, Op.bytesLess x x = false
  | [] => rfl
  | a :: x => by rw [less_cons_same]; exact less_irrefl x

theorem less_trans : ∀ x y z : List UInt8, Op.bytesLess x y = true → Op.bytesLess y z = true → Op.bytesLess x z = true
  | _, _, [], _, h2 => by
    rename_i y _
    cases y <;> simp [Op.bytesLess] at h2
  | [], _, c :: z, _, _ => rfl
  | a :: x, [], c :: z, h1, _ => by simp [Op.bytesLess] at h1
  | a :: x, b :: y, c :: z, h1, h2 => by
    have ih := less_trans x y z
    simp only [Op.bytesLess, Bool.or_eq_true, decide_eq_true_eq, Bool.and_eq_true, beq_iff_eq] at h1 h2 ⊢
    rcases h1 with h1 | ⟨rfl, h1⟩
    · rcases h2 with h2 | ⟨rfl, h2⟩
      · exact .inl (UInt8.lt_trans h1 h2)
      · exact .inl h1
    · rcases h2 with h2 | ⟨rfl, h2⟩
      · exact .inl h2
      · exact .inr ⟨rfl, ih h1 h2⟩

theorem less_total : ∀ x y : List UInt8, Op.bytesLess x y = false → (x == y) = false → Op.bytesLess y x = true
  | [], [], _, h => by simp at h
  | [], b :: y, h, _ => by simp [Op.bytesLess] at h
  | a :: x, [], _, _ => rfl
  | a :: x, b :: y, h1, h2 => by
    have ih := less_total x y
    by_cases hab : a = b
    · subst hab
      rw [less_cons_same] at h1 ⊢
      refine ih h1 ?_
      simpa using h2
    · have h1' : ¬ a < b := by
        intro h
        simp [Op.bytesLess, h] at h1
      have : b < a := by
        rw [UInt8.lt_iff_toNat_lt] at h1' ⊢
        have : a.toNat ≠ b.toNat := fun e => hab (UInt8.toNat_inj.1 e)
        omega
      simp [Op.bytesLess, this]

theorem less_at : ∀ (k : Nat) (x y : List UInt8) (_ : ∀ j, j < k → x[j]? = y[j]?) (hx : k < x.length) (hy : k < y.length) (_ : x[k] ≠ y[k]),
    Op.bytesLess x y = decide (x[k].toNat < y[k].toNat)
  | _, [], _, _, hx, _, _ => by simp at hx
  | _, _ :: _, [], _, _, hy, _ => by simp at hy
  | 0, a :: x, b :: y, _, _, _, hne => by
    have hne' : (a == b) = false := by simpa using hne
    simp [Op.bytesLess, hne', UInt8.lt_iff_toNat_lt]
  | k + 1, a :: x, b :: y, h, hx, hy, hne => by
    have h0 : a = b := by simpa using h 0 (by omega)
    subst h0
    rw [less_cons_same]
    exact less_at k x y (fun j hj => by simpa using h (j + 1) (by omega)) (by simpa using hx) (by simpa using hy) (by simpa using hne)

theorem less_end : ∀ (x y : List UInt8) (_ : ∀ j, j < x.length → j < y.length → x[j]? = y[j]?), Op.bytesLess x y = decide (x.length < y.length)
  | [], [], _ => rfl
  | [], b :: y, _ => by simp [Op.bytesLess]
  | a :: x, [], _ => by simp [Op.bytesLess]
  | a :: x, b :: y, h => by
    have h0 : a = b := by simpa using h 0 (by simp) (by simp)
    subst h0
    rw [less_cons_same, less_end x y (fun j h1 h2 => by simpa using h (j + 1) (by simpa using h1) (by simpa using h2))]
    simp

/-! zzStrLess -/
/-- Alike below k. -/
def Same (a b : ByteArray) (k : Nat) : Prop := ∀ j, j < k → a.data.toList[j]? = b.data.toList[j]?

theorem same_zero (a b : ByteArray) : Same a b 0 := fun j h => absurd h (Nat.not_lt_zero j)

theorem getElem?_data (a : ByteArray) (k : Nat) (h : k < a.size) : a.data.toList[k]? = some a[k] := by
  have : a.data.toList.length = a.size := by simp
  rw [List.getElem?_eq_getElem (by omega)]; rfl

theorem same_step {a b : ByteArray} {k : Nat} (ha : k < a.size) (hb : k < b.size) (hs : Same a b k) (h : ((a[k].toNat : Int) != (b[k].toNat : Int)) = false) : Same a b (k + 1) := by
  intro j hj
  by_cases hjk : j < k
  · exact hs j hjk
  · have : j = k := by omega
    subst this
    rw [getElem?_data a j ha, getElem?_data b j hb]
    congr 1
    have hn : (a[j].toNat : Int) = (b[j].toNat : Int) := by simpa using h
    exact UInt8.toNat_inj.1 (by omega)

theorem same_part {a b : ByteArray} {k : Nat} (ha : k < a.size) (hb : k < b.size) (hs : Same a b k) (h : ((a[k].toNat : Int) != (b[k].toNat : Int)) = true) :
    Op.bytesLess a.data.toList b.data.toList = decide (a[k].toNat < b[k].toNat) := by
  have hla : a.data.toList.length = a.size := by simp
  have hlb : b.data.toList.length = b.size := by simp
  have hne : a.data.toList[k]'(by omega) ≠ b.data.toList[k]'(by omega) := by
    intro e
    have e' : a[k] = b[k] := e
    rw [e'] at h
    simp at h
  exact less_at k a.data.toList b.data.toList hs (by omega) (by omega) hne

theorem same_end {a b : ByteArray} {k : Nat} (hk : a.size ≤ k ∨ b.size ≤ k) (hs : Same a b k) :
    Op.bytesLess a.data.toList b.data.toList = decide (a.size < b.size) := by
  have hla : a.data.toList.length = a.size := by simp
  have hlb : b.data.toList.length = b.size := by simp
  rw [less_end a.data.toList b.data.toList (fun j h1 h2 => hs j (by omega)), hla, hlb]

/-! The running maximum of jpfMax over strings -/
/-- What Go's 'item > best' gives. -/
def gtr (x y : ByteArray) : Bool := !(Op.bytesLess x.toList y.toList || x.toList == y.toList)

def bestS (s : Nat → ByteArray) : Nat → ByteArray
  | 0 => s 0
  | k + 1 => if gtr (s (1 + k)) (bestS s k) then s (1 + k) else bestS s k

theorem bestS_yes (s : Nat → ByteArray) (k : Nat) (h : gtr (s (1 + k)) (bestS s k) = true) : bestS s (k + 1) = s (1 + k) := if_pos h
theorem bestS_no (s : Nat → ByteArray) (k : Nat) (h : gtr (s (1 + k)) (bestS s k) = false) : bestS s (k + 1) = bestS s k := if_neg (by rw [h]; decide)

theorem bestS_is (s : Nat → ByteArray) : ∀ k, ∃ p, p ≤ k ∧ bestS s k = s p
  | 0 => ⟨0, Nat.le_refl _, rfl⟩
  | k + 1 => by
    obtain ⟨p, hp, e⟩ := bestS_is s k
    cases h : gtr (s (1 + k)) (bestS s k) with
    | true => exact ⟨1 + k, by omega, bestS_yes s k h⟩
    | false => exact ⟨p, by omega, by rw [bestS_no s k h, e]⟩

/-- THE PLAIN LAW: no element is greater. -/
theorem bestS_top (s : Nat → ByteArray) : ∀ k j, j ≤ k → Op.bytesLess (bestS s k).data.toList (s j).data.toList = false
  | 0, j, hj => by
    have : j = 0 := by omega
    subst this
    exact less_irrefl _
  | k + 1, j, hj => by
    have ih := bestS_top s k
    cases h : gtr (s (1 + k)) (bestS s k) with
    | true =>
      rw [bestS_yes s k h]
      unfold gtr at h
      rw [Lib.toList_data, Lib.toList_data] at h
      simp only [Bool.not_eq_true', Bool.or_eq_false_iff] at h
      have hlt := less_total _ _ h.1 h.2
      by_cases e : j = 1 + k
      · subst e; exact less_irrefl _
      · have hj' := ih j (by omega)
        cases hb : Op.bytesLess (s (1 + k)).data.toList (s j).data.toList with
        | false => rfl
        | true => rw [less_trans _ _ _ hlt hb] at hj'; cases hj'
    | false =>
      rw [bestS_no s k h]
      by_cases e : j = 1 + k
      · subst e
        unfold gtr at h
        rw [Lib.toList_data, Lib.toList_data] at h
        simp only [Bool.not_eq_false', Bool.or_eq_true] at h
        cases hb : Op.bytesLess (bestS s k).data.toList (s (1 + k)).data.toList with
        | false => rfl
        | true =>
          rcases h with h | h
          · have := less_trans _ _ _ hb h
            rw [less_irrefl] at this; cases this
          · have e := eq_of_beq h
            rw [e, less_irrefl] at hb; cases hb
      · exact ih j (by omega)
end Go.Proofs.Youaiw
