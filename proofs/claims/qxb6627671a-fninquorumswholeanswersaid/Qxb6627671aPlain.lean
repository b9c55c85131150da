/- THE PLAIN LAWS: the order of strings, membership, insertion, halving: no Go in sight. -/
import GoSem.Op.String
import Derived.Laws.Strings
namespace Go.Proofs.Qxb6627671a

theorem less_irrefl : ∀ x : List UInt8, Op.bytesLess x x = false
  | [] => rfl
  | a :: x => by rw [Op.bytesLess, less_irrefl x]; simp

theorem less_trans : ∀ x y z : List UInt8, Op.bytesLess x y = true → Op.bytesLess y z = true → Op.bytesLess x z = true
  | x, y, [], _, h => by cases y <;> simp [Op.bytesLess] at h
  | [], _, _ :: _, _, _ => rfl
  | _ :: _, [], _, h, _ => by simp [Op.bytesLess] at h
  | a :: x, b :: y, c :: z, h, k => by
    simp only [Op.bytesLess, Bool.or_eq_true, Bool.and_eq_true, decide_eq_true_eq, beq_iff_eq] at h k ⊢
    rcases h with h | ⟨rfl, h⟩ <;> rcases k with k | ⟨rfl, k⟩
    · exact .inl (UInt8.lt_trans h k)
    · exact .inl h
    · exact .inl k
    · exact .inr ⟨rfl, less_trans x y z h k⟩

theorem less_tri : ∀ x y : List UInt8, Op.bytesLess x y = false → Op.bytesLess y x = false → x = y
  | [], [], _, _ => rfl
  | [], _ :: _, h, _ => by simp [Op.bytesLess] at h
  | _ :: _, [], _, h => by simp [Op.bytesLess] at h
  | a :: x, b :: y, h, k => by
    simp only [Op.bytesLess, Bool.or_eq_false_iff, Bool.and_eq_false_iff, decide_eq_false_iff_not, beq_eq_false_iff_ne] at h k
    have hab : a = b := by
      have h1 := h.1
      have h2 := k.1
      rw [UInt8.lt_iff_toNat_lt] at h1 h2
      exact UInt8.toNat_inj.1 (by omega)
    subst hab
    simp only [ne_eq, not_true_eq_false, false_or] at h k
    rw [less_tri x y h.2 k.2]

theorem less_asymm (x y : List UInt8) (h : Op.bytesLess x y = true) : Op.bytesLess y x = false := by
  cases k : Op.bytesLess y x with
  | false => rfl
  | true => have := less_trans x y x h k; rw [less_irrefl] at this; exact absurd this (by simp)

/-- a at most b, b below c: a below c. -/
theorem le_less (a b c : List UInt8) (h : Op.bytesLess b a = false) (k : Op.bytesLess b c = true) : Op.bytesLess a c = true := by
  cases h2 : Op.bytesLess a b with
  | true => exact less_trans a b c h2 k
  | false => rw [less_tri a b h2 h]; exact k
/-- a at most b, b at most c: a at most c. -/
theorem le_le (a b c : List UInt8) (h : Op.bytesLess b a = false) (k : Op.bytesLess c b = false) : Op.bytesLess c a = false := by
  cases h2 : Op.bytesLess c a with
  | false => rfl
  | true =>
    cases h3 : Op.bytesLess c b with
    | true => rw [h3] at k; exact k
    | false =>
      cases h4 : Op.bytesLess b c with
      | true => have := less_trans b c a h4 h2; rw [this] at h; exact h
      | false => rw [less_tri b c h4 h3] at h; rw [h] at h2; exact absurd h2 (by simp)

theorem bytes_ext {a b : ByteArray} (h : a.toList = b.toList) : a = b := by
  rw [ByteArray.toList_eq, ByteArray.toList_eq] at h
  obtain ⟨⟨x⟩⟩ := a
  obtain ⟨⟨y⟩⟩ := b
  simp at h
  rw [h]

/-- Does x stand among the first n? -/
def hasB (S : Nat → ByteArray) (n : Nat) (x : ByteArray) : Bool := (List.range n).any fun i => x.toList == (S i).toList
theorem hasB_iff (S : Nat → ByteArray) (n : Nat) (x : ByteArray) : hasB S n x = true ↔ ∃ i, i < n ∧ S i = x := by
  simp only [hasB, List.any_eq_true, List.mem_range, beq_iff_eq]
  exact ⟨fun ⟨i, h1, h2⟩ => ⟨i, h1, (bytes_ext h2).symm⟩, fun ⟨i, h1, h2⟩ => ⟨i, h1, by rw [h2]⟩⟩
theorem hasB_succ (S : Nat → ByteArray) (n : Nat) (x : ByteArray) : hasB S (n + 1) x = (hasB S n x || x.toList == (S n).toList) := by
  simp [hasB, List.range_succ]
theorem hasB_of (S : Nat → ByteArray) (n k : Nat) (x : ByteArray) (hk : k < n) (h : (x.toList == (S k).toList) = true) : hasB S n x = true :=
  (hasB_iff S n x).2 ⟨k, hk, (bytes_ext (by simpa using h)).symm⟩
theorem hasB_zero (S : Nat → ByteArray) (x : ByteArray) : hasB S 0 x = false := rfl

/-- No later one is below an earlier one. -/
def SortedS (Y : Nat → ByteArray) (n : Nat) : Prop := ∀ a b, a < b → b < n → Op.bytesLess (Y b).toList (Y a).toList = false

/-! ### Halving -/
theorem half_up (Y : Nat → ByteArray) (n m : Nat) (x : ByteArray) (hs : SortedS Y n) (hm : m < n) (h : Op.bytesLess (Y m).toList x.toList = true) : ∀ i, i < m + 1 → Op.bytesLess (Y i).toList x.toList = true := by
  intro i hi
  by_cases e : i = m
  · subst e; exact h
  · exact le_less _ _ _ (hs i m (by omega) hm) h
theorem half_down (Y : Nat → ByteArray) (n m : Nat) (x : ByteArray) (hs : SortedS Y n) (h : Op.bytesLess (Y m).toList x.toList = false) : ∀ i, m ≤ i → i < n → Op.bytesLess (Y i).toList x.toList = false := by
  intro i hi hn
  by_cases e : i = m
  · subst e; exact h
  · cases k : Op.bytesLess (Y i).toList x.toList with
    | false => rfl
    | true => have := le_less _ _ _ (hs m i (by omega) hn) k; rw [this] at h; exact h
theorem half_end (Y : Nat → ByteArray) (n l : Nat) (x : ByteArray) (hs : SortedS Y n) (hl : ∀ i, i < l → Op.bytesLess (Y i).toList x.toList = true) (hh : ∀ i, l ≤ i → i < n → Op.bytesLess (Y i).toList x.toList = false) :
    (l < n → hasB Y n x = ((Y l).toList == x.toList)) ∧ (¬ l < n → hasB Y n x = false) := by
  refine ⟨fun hln => ?_, fun hln => ?_⟩
  · rw [Bool.eq_iff_iff, hasB_iff, beq_iff_eq]
    refine ⟨fun ⟨i, hi, e⟩ => ?_, fun e => ⟨l, hln, bytes_ext e⟩⟩
    subst e
    by_cases hil : i < l
    · have := hl i hil; rw [less_irrefl] at this; exact absurd this (by simp)
    · by_cases e : l = i
      · rw [e]
      · exact less_tri _ _ (hh l (Nat.le_refl _) hln) (hs l i (by omega) hi)
  · cases h : hasB Y n x with
    | false => rfl
    | true =>
      obtain ⟨i, hi, e⟩ := (hasB_iff Y n x).1 h
      subst e
      have := hl i (by omega)
      rw [less_irrefl] at this; exact absurd this (by simp)

/-! ### Insertion -/
/-- Up to i in order, but for what stands at j. -/
def Nearly (Y : Nat → ByteArray) (i j : Nat) : Prop := ∀ a b, a < b → b ≤ i → b ≠ j → Op.bytesLess (Y b).toList (Y a).toList = false
def swapS (Y : Nat → ByteArray) (j : Nat) (t : Nat) : ByteArray := if t = j then Y (j - 1) else if t = j - 1 then Y j else Y t

theorem nearly_start (Y : Nat → ByteArray) (i : Nat) (h : SortedS Y i) : Nearly Y i i := fun a b hab hb hne => h a b hab (by omega)
theorem nearly_end (Y : Nat → ByteArray) (i j : Nat) (hj : j ≤ i) (h : Nearly Y i j) (hx : j = 0 ∨ Op.bytesLess (Y j).toList (Y (j - 1)).toList = false) : SortedS Y (i + 1) := by
  intro a b hab hb
  by_cases e : b = j
  · subst e
    rcases hx with hx | hx
    · omega
    · by_cases e : a = b - 1
      · subst e; exact hx
      · exact le_le _ _ _ (h a (b - 1) (by omega) (by omega) (by omega)) hx
  · exact h a b hab (by omega) e
theorem nearly_swap (Y : Nat → ByteArray) (i j : Nat) (h0 : 0 < j) (hj : j ≤ i) (h : Nearly Y i j) (hx : Op.bytesLess (Y j).toList (Y (j - 1)).toList = true) : Nearly (swapS Y j) i (j - 1) := by
  intro a b hab hb hne
  unfold swapS
  by_cases e : b = j
  · subst e
    rw [if_pos rfl, if_neg (by omega)]
    by_cases e : a = b - 1
    · rw [if_pos e]; exact less_asymm _ _ hx
    · rw [if_neg e]; exact h a (b - 1) (by omega) (by omega) (by omega)
  · rw [if_neg e, if_neg hne]
    by_cases e1 : a = j
    · rw [if_pos e1]; exact h (j - 1) b (by omega) hb e
    · rw [if_neg e1]
      by_cases e2 : a = j - 1
      · rw [if_pos e2]; exact h j b (by omega) hb e
      · rw [if_neg e2]; exact h a b hab hb e
theorem has_swap (Y : Nat → ByteArray) (n j : Nat) (h0 : 0 < j) (hj : j < n) (x : ByteArray) : hasB (swapS Y j) n x = hasB Y n x := by
  rw [Bool.eq_iff_iff, hasB_iff, hasB_iff]
  constructor
  · rintro ⟨i, hi, e⟩
    unfold swapS at e
    by_cases e1 : i = j
    · rw [if_pos e1] at e; exact ⟨j - 1, by omega, e⟩
    · rw [if_neg e1] at e
      by_cases e2 : i = j - 1
      · rw [if_pos e2] at e; exact ⟨j, hj, e⟩
      · rw [if_neg e2] at e; exact ⟨i, hi, e⟩
  · rintro ⟨i, hi, e⟩
    by_cases e1 : i = j
    · refine ⟨j - 1, by omega, ?_⟩
      unfold swapS
      rw [if_neg (by omega), if_pos rfl, ← e1, e]
    · by_cases e2 : i = j - 1
      · refine ⟨j, hj, ?_⟩
        unfold swapS
        rw [if_pos rfl, ← e2, e]
      · refine ⟨i, hi, ?_⟩
        unfold swapS
        rw [if_neg e1, if_neg e2, e]

/-! ### What is kept -/
/-- Of the first k those that p lets by. -/
def kept (F : Nat → ByteArray) (p : ByteArray → Bool) (k : Nat) : List ByteArray := ((List.range k).map F).filter p
theorem kept_yes (F : Nat → ByteArray) (p : ByteArray → Bool) (k : Nat) (h : p (F k) = true) : kept F p (k + 1) = kept F p k ++ [F k] := by
  simp [kept, List.range_succ, List.filter_append, h]
theorem kept_no (F : Nat → ByteArray) (p : ByteArray → Bool) (k : Nat) (h : p (F k) = false) : kept F p (k + 1) = kept F p k := by
  simp [kept, List.range_succ, List.filter_append, h]
theorem kept_le (F : Nat → ByteArray) (p : ByteArray → Bool) (k : Nat) : (kept F p k).length ≤ k := by
  have := List.length_filter_le p ((List.range k).map F)
  simpa [kept] using this
theorem kept_congr (F : Nat → ByteArray) (p q : ByteArray → Bool) (k : Nat) (h : ∀ x, p x = q x) : kept F p k = kept F q k := by
  have : p = q := funext h
  rw [this]
end Go.Proofs.Qxb6627671a
