/- THE PLAIN LAWS: numerals, records, what decoding needs, that no two rules share a key: no Go in sight. -/
import Derived.Lib.ItoaNum
namespace Go.Proofs.Qxb6627736aDoor

/-! ### Numerals -/
/-- What a row of digits says. -/
def dval (l : List UInt8) : Nat := l.foldl (fun n c => n * 10 + (c.toNat - 48)) 0
theorem dval_snoc (l : List UInt8) (c : UInt8) : dval (l ++ [c]) = dval l * 10 + (c.toNat - 48) := by simp [dval]
theorem dval_take_le (l : List UInt8) (p : Nat) : dval (l.take p) ≤ dval l := by
  induction p with
  | zero => simp [dval]
  | succ p ih =>
    by_cases h : p < l.length
    · suffices hh : ∀ r : List UInt8, ∀ n : Nat, n ≤ r.foldl (fun n c => n * 10 + (c.toNat - 48)) n by
        have e : dval l = (l.drop (p + 1)).foldl (fun n c => n * 10 + (c.toNat - 48)) (dval (l.take (p + 1))) := by
          unfold dval
          rw [← List.foldl_append, List.take_append_drop]
        rw [e]
        exact hh _ _
      intro r
      induction r with
      | nil => intro n; exact Nat.le_refl _
      | cons c r ihr => intro n; rw [List.foldl_cons]; exact Nat.le_trans (by omega) (ihr _)
    · rw [List.take_of_length_le (by omega)]; exact Nat.le_refl _

theorem ofNat_digit (d : Nat) (h : d < 10) : (UInt8.ofNat (48 + d)).toNat = 48 + d := by
  simp only [UInt8.toNat_ofNat']
  omega

theorem dec_val (u : Nat) : dval (Lib.decDigits u) = u := by
  induction u using Nat.strongRecOn with
  | ind u ih =>
    rw [Lib.decDigits]
    by_cases h : u < 10
    · rw [dif_pos h]
      simp [dval]
      omega
    · rw [dif_neg h, dval_snoc, ih (u / 10) (by omega), ofNat_digit (u % 10) (by omega)]
      omega
theorem dec_range (u : Nat) : ∀ c ∈ Lib.decDigits u, 48 ≤ c.toNat ∧ c.toNat ≤ 57 := by
  induction u using Nat.strongRecOn with
  | ind u ih =>
    intro c hc
    rw [Lib.decDigits] at hc
    by_cases h : u < 10
    · rw [dif_pos h] at hc
      simp only [List.mem_singleton] at hc
      rw [hc, ofNat_digit u h]
      omega
    · rw [dif_neg h] at hc
      simp only [List.mem_append, List.mem_singleton] at hc
      rcases hc with hc | hc
      · exact ih (u / 10) (by omega) c hc
      · rw [hc, ofNat_digit (u % 10) (by omega)]
        omega
theorem dec_pos (u : Nat) : 0 < (Lib.decDigits u).length := by
  rw [Lib.decDigits]
  split <;> simp
/-- No leading nought but in "0". -/
theorem dec_head (u : Nat) : (∃ r, Lib.decDigits u = 48 :: r) → (Lib.decDigits u).length = 1 := by
  induction u using Nat.strongRecOn with
  | ind u ih =>
    rintro ⟨r, hr⟩
    by_cases h : u < 10
    · rw [Lib.decDigits, dif_pos h]; rfl
    · exfalso
      rw [Lib.decDigits, dif_neg h] at hr
      have hp := dec_pos (u / 10)
      have hv := dec_val (u / 10)
      match hd : Lib.decDigits (u / 10), hp with
      | c :: t, _ =>
        rw [hd] at hr
        simp only [List.cons_append, List.cons.injEq] at hr
        obtain ⟨rfl, _⟩ := hr
        have h1 := ih (u / 10) (by omega) ⟨t, hd⟩
        rw [hd] at h1 hv
        simp only [List.length_cons] at h1
        have : t = [] := List.eq_nil_of_length_eq_zero (by omega)
        subst this
        simp [dval] at hv
        omega
theorem dec_inj {u v : Nat} (h : Lib.decDigits u = Lib.decDigits v) : u = v := by rw [← dec_val u, ← dec_val v, h]
theorem dec_le : ∀ (k u : Nat), u < 10 ^ (k + 1) → (Lib.decDigits u).length ≤ k + 1
  | 0, u, h => by rw [Lib.decDigits, dif_pos (by simpa using h)]; simp
  | k + 1, u, h => by
    rw [Lib.decDigits]
    by_cases hu : u < 10
    · rw [dif_pos hu]; simp
    · rw [dif_neg hu]
      have := dec_le k (u / 10) (by rw [Nat.pow_succ] at h; omega)
      simp
      omega

/-! ### Records -/
/-- One value's record: a comma, its length, a colon, its bytes. -/
def rec1 (v : ByteArray) : List UInt8 := 44 :: (Lib.decDigits v.size ++ 58 :: v.data.toList)
def enc (vs : List ByteArray) : List UInt8 := vs.flatMap rec1
theorem enc_nil : enc [] = [] := rfl
theorem enc_cons (v : ByteArray) (vs : List ByteArray) : enc (v :: vs) = rec1 v ++ enc vs := by simp [enc]
theorem enc_append (a b : List ByteArray) : enc (a ++ b) = enc a ++ enc b := by simp [enc]
theorem enc_snoc (a : List ByteArray) (v : ByteArray) : enc (a ++ [v]) = enc a ++ rec1 v := by simp [enc]
/-- The bytes of all values together. -/
def tot (vs : List ByteArray) : Nat := (vs.map ByteArray.size).sum
theorem rec1_length (v : ByteArray) : (rec1 v).length = 2 + (Lib.decDigits v.size).length + v.size := by
  simp [rec1]
  show _ + (_ + 1) + 1 = _
  have : v.data.size = v.size := rfl
  omega
theorem enc_le (vs : List ByteArray) (h : ∀ v ∈ vs, v.size < 10 ^ 20) : (enc vs).length ≤ 22 * vs.length + tot vs := by
  induction vs with
  | nil => simp [enc_nil]
  | cons v vs ih =>
    rw [enc_cons, List.length_append, rec1_length]
    have h1 := ih (fun x hx => h x (by simp [hx]))
    have h2 := dec_le 19 v.size (h v (by simp))
    simp only [List.length_cons, tot, List.map_cons, List.sum_cons] at h1 ⊢
    omega

theorem split_at {x : UInt8} : ∀ {a a' b b' : List UInt8}, (∀ c ∈ a, c ≠ x) → (∀ c ∈ a', c ≠ x) → a ++ x :: b = a' ++ x :: b' → a = a' ∧ b = b'
  | [], [], _, _, _, _, h => by simpa using h
  | [], c :: a', _, _, _, h', h => by
    simp only [List.nil_append, List.cons_append, List.cons.injEq] at h
    exact absurd h.1.symm (h' c (by simp))
  | c :: a, [], _, _, h', _, h => by
    simp only [List.nil_append, List.cons_append, List.cons.injEq] at h
    exact absurd h.1 (h' c (by simp))
  | c :: a, d :: a', b, b', h1, h2, h => by
    simp only [List.cons_append, List.cons.injEq] at h
    obtain ⟨rfl, h⟩ := h
    obtain ⟨rfl, rfl⟩ := split_at (fun e he => h1 e (by simp [he])) (fun e he => h2 e (by simp [he])) h
    exact ⟨rfl, rfl⟩
theorem dec_no_colon (u : Nat) : ∀ c ∈ Lib.decDigits u, c ≠ 58 := by
  rintro c hc rfl
  have := dec_range u 58 hc
  simp at this
theorem bytes_ext {a b : ByteArray} (h : a.data.toList = b.data.toList) : a = b := by
  obtain ⟨⟨x⟩⟩ := a
  obtain ⟨⟨y⟩⟩ := b
  simp at h
  rw [h]
theorem enc_inj : ∀ {vs vs' : List ByteArray}, enc vs = enc vs' → vs = vs'
  | [], [], _ => rfl
  | [], v :: vs', h => by rw [enc_cons] at h; simp [enc_nil, rec1] at h
  | v :: vs, [], h => by rw [enc_cons] at h; simp [enc_nil, rec1] at h
  | v :: vs, v' :: vs', h => by
    rw [enc_cons, enc_cons] at h
    simp only [rec1, List.cons_append, List.append_assoc, List.cons.injEq, true_and] at h
    obtain ⟨h1, h2⟩ := split_at (dec_no_colon _) (dec_no_colon _) h
    have hs : v.data.toList.length = v'.data.toList.length := by simpa using (dec_inj h1 : v.size = v'.size)
    obtain ⟨h3, h4⟩ := List.append_inj h2 hs
    rw [bytes_ext h3, enc_inj h4]

/-- Types without a comma: type and values can be read off. -/
theorem typ_inj {t t' : List UInt8} {vs vs' : List ByteArray} (h1 : ∀ c ∈ t, c ≠ 44) (h2 : ∀ c ∈ t', c ≠ 44) (h : t ++ enc vs = t' ++ enc vs') : t = t' ∧ vs = vs' := by
  match vs, vs' with
  | [], [] => simp [enc_nil] at h; exact ⟨h, rfl⟩
  | [], v' :: r' =>
    exfalso
    rw [enc_cons, enc_nil, List.append_nil] at h
    exact h1 44 (by rw [h]; simp [rec1]) rfl
  | v :: r, [] =>
    exfalso
    rw [enc_cons, enc_nil, List.append_nil] at h
    exact h2 44 (by rw [← h]; simp [rec1]) rfl
  | v :: r, v' :: r' =>
    have e : ∀ x y, enc (x :: y) = 44 :: ((Lib.decDigits x.size ++ 58 :: x.data.toList) ++ enc y) := fun x y => by rw [enc_cons]; rfl
    have h0 := h
    rw [e, e] at h
    obtain ⟨rfl, _⟩ := split_at h1 h2 h
    exact ⟨rfl, enc_inj (List.append_cancel_left h0)⟩

/-! ### What decoding meets at a place -/
/-- L from i on holds the records of vs. -/
def At (L : List UInt8) (i : Nat) (vs : List ByteArray) : Prop := i ≤ L.length ∧ L.drop i = enc vs
theorem At.end_ {L : List UInt8} {i : Nat} {vs : List ByteArray} (h : At L i vs) (hi : ¬ i < L.length) : vs = [] := by
  have h2 := h.2
  rw [List.drop_of_length_le (by omega)] at h2
  exact (enc_inj (vs := []) (by rw [← h2]; rfl)).symm
theorem At.more {L : List UInt8} {i : Nat} {vs : List ByteArray} (h : At L i vs) (hi : i < L.length) : ∃ v r, vs = v :: r := by
  match vs, h with
  | [], h =>
    have := congrArg List.length h.2
    simp [enc_nil] at this
    omega
  | v :: r, _ => exact ⟨v, r, rfl⟩
theorem drop_get {L r : List UInt8} {i : Nat} (h : L.drop i = r) (j : Nat) : L[i + j]? = r[j]? := by rw [← h, List.getElem?_drop]
theorem At.shape {L : List UInt8} {i : Nat} {v : ByteArray} {r : List ByteArray} (h : At L i (v :: r)) :
    L[i]? = some 44 ∧ (∀ p, p < (Lib.decDigits v.size).length → L[i + 1 + p]? = (Lib.decDigits v.size)[p]?) ∧ L[i + 1 + (Lib.decDigits v.size).length]? = some 58 ∧
      (∀ p, p < v.size → L[i + 2 + (Lib.decDigits v.size).length + p]? = v.data.toList[p]?) ∧ i + 2 + (Lib.decDigits v.size).length + v.size ≤ L.length ∧ At L (i + 2 + (Lib.decDigits v.size).length + v.size) r := by
  obtain ⟨h1, h2⟩ := h
  rw [enc_cons] at h2
  have hlen := congrArg List.length h2
  rw [List.length_append, rec1_length, List.length_drop] at hlen
  have g := drop_get h2
  have hv : v.data.toList.length = v.size := by simp
  refine ⟨?_, fun p hp => ?_, ?_, fun p hp => ?_, by omega, by omega, ?_⟩
  · have := g 0
    simpa [rec1] using this
  · have := g (1 + p)
    rw [← Nat.add_assoc] at this
    rw [this]
    simp only [rec1, List.cons_append, List.append_assoc]
    rw [show 1 + p = p + 1 by omega, List.getElem?_cons_succ, List.getElem?_append_left hp]
  · have := g (1 + (Lib.decDigits v.size).length)
    rw [← Nat.add_assoc] at this
    rw [this]
    simp only [rec1, List.cons_append, List.append_assoc]
    rw [show 1 + (Lib.decDigits v.size).length = (Lib.decDigits v.size).length + 1 by omega, List.getElem?_cons_succ, List.getElem?_append_right (Nat.le_refl _)]
    simp
  · have := g (2 + (Lib.decDigits v.size).length + p)
    rw [show i + (2 + (Lib.decDigits v.size).length + p) = i + 2 + (Lib.decDigits v.size).length + p by omega] at this
    rw [this]
    simp only [rec1, List.cons_append, List.append_assoc]
    rw [show 2 + (Lib.decDigits v.size).length + p = ((Lib.decDigits v.size).length + (p + 1)) + 1 by omega, List.getElem?_cons_succ, List.getElem?_append_right (by omega)]
    rw [show (Lib.decDigits v.size).length + (p + 1) - (Lib.decDigits v.size).length = p + 1 by omega, List.getElem?_cons_succ, List.getElem?_append_left (by omega)]
  · rw [show i + 2 + (Lib.decDigits v.size).length + v.size = i + (rec1 v).length by rw [rec1_length]; omega, ← List.drop_drop, h2, List.drop_left]
end Go.Proofs.Qxb6627736aDoor
