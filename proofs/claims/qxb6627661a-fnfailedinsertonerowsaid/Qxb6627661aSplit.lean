/- THE WALK OF FnFailedSplitAnywhere. -/
import Derived.Test.Qxb6627661aWalks3
namespace Go.Proofs.Qxb6627661a
open Go.RowKit

theorem Try.info32 : (Try.prog.info? 32).map (fun i => (i.zero, i.size, i.bytes)) = some (some (.agg #[.string ByteArray.empty, .string ByteArray.empty, .string ByteArray.empty, .string ByteArray.empty]), 4, 64) := by kernel_rfl

/-- The cells of the first n rows. -/
def cellsOf4 (S : Nat → Nat → ByteArray) (n : Nat) : List Value := (List.range n).flatMap fun i => [.string (S i 0), .string (S i 1), .string (S i 2), .string (S i 3)]
theorem cellsOf4_succ (S : Nat → Nat → ByteArray) (n : Nat) : cellsOf4 S (n + 1) = cellsOf4 S n ++ [.string (S n 0), .string (S n 1), .string (S n 2), .string (S n 3)] := by
  simp [cellsOf4, List.range_succ]
theorem cellsOf4_length (S : Nat → Nat → ByteArray) (n : Nat) : (cellsOf4 S n).length = n * 4 := by
  induction n with
  | zero => rfl
  | succ n ih => rw [cellsOf4_succ]; simp [ih]; omega
theorem cellsOf4_at (S : Nat → Nat → ByteArray) (n i j : Nat) (hi : i < n) (hj : j < 4) : (cellsOf4 S n)[i * 4 + j]? = some (.string (S i j)) := by
  induction n with
  | zero => omega
  | succ n ih =>
    rw [cellsOf4_succ]
    by_cases h : i < n
    · rw [List.getElem?_append_left (by rw [cellsOf4_length]; omega)]
      exact ih h
    · obtain rfl : i = n := by omega
      rw [List.getElem?_append_right (by rw [cellsOf4_length]; omega), cellsOf4_length]
      match j, hj with
      | 0, _ => simp
      | 1, _ => simp
      | 2, _ => simp
      | 3, _ => simp

/-- A made slice, or a part of it, read as rows. -/
theorem rows_of_own {w : World} {base g n cap : Nat} {S : Nat → Nat → ByteArray} (h : w.ownsRow base 32 4 (.slice (some ⟨g, 0, none⟩) n cap) n (cellsOf4 S n)) (i0 m : Nat) (him : i0 + m ≤ n) :
    Rows4 w (some ⟨g, i0 * 4, none⟩) m g (i0 * 4) (fun i => S (i0 + i)) := by
  refine ⟨fun _ => rfl, fun _ => (h.lt g rfl).2, fun i j hi hj => ?_⟩
  rw [h.cellAt _ (by omega), show i0 * 4 + i * 4 + j = (i0 + i) * 4 + j by omega]
  exact cellsOf4_at S n (i0 + i) j (by omega) hj

theorem Try.prog_elem29 : Try.prog.elem 29 = 32 := by kernel_rfl

theorem rows_zero (w : World) (ao : Option Addr) (S : Nat → Nat → ByteArray) : Rows4 w ao 0 0 0 S := ⟨fun h => absurd h (by omega), fun h => absurd h (by omega), fun _ _ h => absurd h (by omega)⟩

theorem anyFail_split (S : Nat → Nat → ByteArray) (k n : Nat) (h : k ≤ n) : anyFail S n = (anyFail S k || anyFail (fun i => S (k + i)) (n - k)) := by
  obtain ⟨m, rfl⟩ : ∃ m, n = k + m := ⟨n - k, by omega⟩
  rw [show k + m - k = m by omega]
  induction m with
  | zero => simp [anyFail]
  | succ m ih => rw [show k + (m + 1) = (k + m) + 1 by omega, anyFail_succ, anyFail_succ, ih (by omega), Bool.or_assoc]
theorem anyFail_one (S : Nat → Nat → ByteArray) : anyFail S 1 = ((S 0 3).toList == [102, 97, 105, 108]) := by
  rw [anyFail_succ]; simp [anyFail, isFail]
theorem anyFail_zero (S : Nat → Nat → ByteArray) : anyFail S 0 = false := rfl

/-- The four cells of a one-element slice that has just been laid. -/
theorem four_new (w : World) (s0 s1 s2 s3 : ByteArray) : ∀ j u, [Value.string s0, .string s1, .string s2, .string s3][j]? = some u →
    (w.alloc (.cells #[.string s0, .string s1, .string s2, .string s3] 32)).cell? ((⟨w.heap.size, 0, none⟩ : Addr).add j) = some u := by
  intro j u hj
  match j, hj with
  | 0, hj => simp at hj; subst hj; simp [Addr.add, go_sem]
  | 1, hj => simp at hj; subst hj; simp [Addr.add, go_sem]
  | 2, hj => simp at hj; subst hj; simp [Addr.add, go_sem]
  | 3, hj => simp at hj; subst hj; simp [Addr.add, go_sem]
theorem four_one (s0 s1 s2 s3 : ByteArray) : ∀ u ∈ [Value.string s0, .string s1, .string s2, .string s3], u.oneCell' = true := by
  intro u hu
  simp at hu
  rcases hu with rfl | rfl | rfl | rfl <;> rfl
theorem own_below {w w' : World} {base e size : Nat} {v : Value} {n : Nat} {xs : List Value} (h : w.ownsRow base e size v n xs) (hb : Below w.heap.size w w') : w'.ownsRow base e size v n xs := by
  rcases hv : v.ownBlock with _ | k
  · exact h.kept (grown_of_below hb) (.inl hv)
  · exact h.kept (grown_of_below hb) (.inr (by simp [hv]))

set_option maxHeartbeats 400000 in
theorem split_any (ao : Option Addr) (len cap b off : Nat) (S : Nat → Nat → ByteArray) (k0 : Int) (w : World) (hm : len ≤ 9223372036854775807) (hr : Rows4 w ao len b off S) :
    Calls Try.prog 4 #[.slice ao len cap, .int .i64 k0] w fun e w' => e = .returned (.bool true) ∧ Below w.heap.size w w' := by
  obtain ⟨i0, hi, hz0, hz1, hz2⟩ := info_parts Try.info32
  by_cases hlen : (65536 : Int) < len
  · go_enter Try.func4, Try.ntmps4
    go_wp2_with (first
      | (go_at_call 10; refine (zzSplit_any _ _ _ _ _ _ _ _ hm hr).mono ?_; rintro e w' ⟨⟨b', rfl⟩, rfl⟩))
    all_goals (go_ret; exact ⟨rfl, by go_grown⟩)
  by_cases hk0 : k0 < 0
  · go_enter Try.func4, Try.ntmps4
    go_wp2_with (first
      | (go_at_call 10; refine (zzSplit_any _ _ _ _ _ _ _ _ hm hr).mono ?_; rintro e w' ⟨⟨b', rfl⟩, rfl⟩)
      | (go_at_call 7; refine (failRowsFit_any _ _ _ _ _ _ _ _ hm hr).mono ?_; rintro e w' ⟨⟨b'', rfl⟩, hb1⟩))
    all_goals (go_ret; exact ⟨rfl, by go_grown⟩)
  by_cases hk1 : (len : Int) < k0
  · go_enter Try.func4, Try.ntmps4
    go_wp2_with (first
      | (go_at_call 10; refine (zzSplit_any _ _ _ _ _ _ _ _ hm hr).mono ?_; rintro e w' ⟨⟨b', rfl⟩, rfl⟩)
      | (go_at_call 7; refine (failRowsFit_any _ _ _ _ _ _ _ _ hm hr).mono ?_; rintro e w' ⟨⟨b'', rfl⟩, hb1⟩))
    all_goals (go_ret; exact ⟨rfl, by go_grown⟩)
  obtain ⟨k, rfl⟩ : ∃ k : Nat, k0 = k := ⟨k0.toNat, by omega⟩
  go_enter Try.func4, Try.ntmps4
  go_wp2_with (first
      | (go_at_call 10; refine (zzSplit_any _ _ _ _ _ _ _ _ hm hr).mono ?_; rintro e w' ⟨⟨b', rfl⟩, rfl⟩)
      | (go_at_call 7; refine (failRowsFit_any _ _ _ _ _ _ _ _ hm hr).mono ?_; rintro e w1 ⟨⟨b'', rfl⟩, hb1⟩)
      | (at_make; refine wpList_make_own _ rfl _ _ 29 rfl w1.heap.size 32 i0 _ 4 Try.underlying29 hi hz0 hz1 _ _ _ len rfl rfl rfl (by rw [hz2]; omega) (by unfold maxLen; omega) (Nat.le_refl _) ?_; intro w2 hown hgr))
  · go_ret; exact ⟨rfl, by go_grown⟩
  · go_ret; exact ⟨rfl, by go_grown⟩
  have hb2 : Below w.heap.size w w2 := hb1.grown hgr hb1.size (by simp)
  obtain ⟨g, hg⟩ : ∃ g, g = w1.heap.size := ⟨_, rfl⟩
  rw [← hg] at hown ⊢
  have hgw : w.heap.size ≤ g := by rw [hg]; exact hb1.size
  clear hg hb1
  go_loopw [5, 6] (fun v i wr => ∃ (j : Nat), j ≤ len ∧ i = .int .i64 j ∧ v = .slice (some ⟨g, 0, none⟩) j len ∧ wr.ownsRow g 32 4 (.slice (some ⟨g, 0, none⟩) j len) j (cellsOf4 S j) ∧ Below w.heap.size w wr) (fun _ i _ => len - (intOf i).toNat)
  case atStart => exact ⟨0, Nat.zero_le _, rfl, rfl, hown, hb2⟩
  case round =>
    obtain ⟨j, hj, rfl, rfl, hown, hbel⟩ := hrel
    by_cases hlt : j < len
    · have hr' := hr.below hbel
      have hix := hr'.idx cap hlt
      obtain ⟨c0, c1, c2, c3⟩ := hr'.cells hlt
      clear hr'
      go_wp2_with (first
        | (go_at_call 8; refine (failToRow_any _ _ _ _ _).mono ?_; rintro e w3 ⟨rfl, hb3⟩)
        | (at_builtin; refine wpList_append_fits _ rfl (.tmp 39) (.tmp 45) 29 rfl g 32 i0 4 Try.underlying29 hi hz1 g j len (cellsOf4 S j) rfl ((own_below hown hb3).alloc _) ⟨w3.heap.size, 0, none⟩ 1 1 [.string (S j 0), .string (S j 1), .string (S j 2), .string (S j 3)] rfl rfl (four_new _ _ _ _ _) (four_one _ _ _ _) (by omega) ?_; intro w4 hown4 hgr4))
      have hs3 := hb3.size
      have hs2 := hbel.size
      have hb4 : Below w.heap.size w w4 := by
        refine ((hbel.trans (hb3.mono hbel.size)).alloc (by omega) _).grown hgr4 (by simp; omega) ?_
        intro k hk; simp at hk; omega
      go_roundw
      case rel => exact ⟨j + 1, by omega, by go_num, rfl, by rw [cellsOf4_succ]; exact hown4, hb4⟩
      case measure => simp [intOf]; omega
    · obtain rfl : j = len := by omega
      have rA : Rows4 wr (some ⟨g, 0, none⟩) j g 0 S := by simpa using rows_of_own hown 0 j (by omega)
      have rB : Rows4 wr (some ⟨g, 0, none⟩) k g 0 S := by simpa using rows_of_own hown 0 k (by omega)
      have hA := anyFail_split S k j (by omega)
      have hsz := hbel.size
      by_cases hkl : k < j
      · have rC := rows_of_own hown k (j - k) (by omega)
        have rD := rows_of_own hown k 1 (by omega)
        have hD := anyFail_one (fun i => S (k + i))
        simp only [Nat.add_zero] at hD
        have hix := hr.idx cap hkl
        clear hown
        rcases hB : anyFail S k with _ | _ <;> rcases hC : anyFail (fun i => S (k + i)) (j - k) with _ | _ <;> rcases hE : ((S k 3).toList == [102, 97, 105, 108]) with _ | _ <;> rw [hB, hC] at hA <;> rw [hE] at hD <;> simp only [Bool.or_false, Bool.or_true] at hA
        all_goals
          go_wp2_with fail
          refine (failed_any _ _ _ _ _ S _ (by omega) rA).mono ?_
          rintro e w5 ⟨rfl, hb5⟩
          go_wp2_with fail
          refine (failed_any _ _ _ _ _ S _ (by omega) (rB.below hb5)).mono ?_
          rintro e w6 ⟨rfl, hb6⟩
          go_wp2_with fail
          refine (failed_any _ _ _ _ _ (fun i => S (k + i)) _ (by omega) ((rC.below hb5).below hb6)).mono ?_
          rintro e w7 ⟨rfl, hb7⟩
          go_wp2_with fail
          refine (failed_any _ _ _ _ _ (fun i => S (k + i)) _ (by omega) (((rD.below hb5).below hb6).below hb7)).mono ?_
          rintro e w8 ⟨rfl, hb8⟩
          have hb9 : Below w.heap.size w w8 := by
            have h5 := hb5.size
            have h6 := hb6.size
            have h7 := hb7.size
            exact (((hbel.trans (hb5.mono (by omega))).trans (hb6.mono (by omega))).trans (hb7.mono (by omega))).trans (hb8.mono (by omega))
          obtain ⟨c0, c1, c2, c3⟩ := (hr.below hb9).cells hkl
          go_wp2
          go_ret
          exact ⟨rfl, hb9⟩
      · obtain rfl : k = j := by omega
        clear hA
        rcases hB : anyFail S k with _ | _
        all_goals
          go_wp2_with fail
          refine (failed_any _ _ _ _ _ S _ (by omega) rA).mono ?_
          rintro e w5 ⟨rfl, hb5⟩
          go_wp2_with fail
          refine (failed_any _ _ _ _ _ S _ (by omega) (rB.below hb5)).mono ?_
          rintro e w6 ⟨rfl, hb6⟩
          go_wp2_with fail
          refine (failed_any _ _ _ 0 0 S _ (by omega) (rows_zero _ _ _)).mono ?_
          rintro e w7 ⟨rfl, hb7⟩
          have hb9 : Below w.heap.size w w7 := by
            have h5 := hb5.size
            have h6 := hb6.size
            exact ((hbel.trans (hb5.mono (by omega))).trans (hb6.mono (by omega))).trans (hb7.mono (by omega))
          rw [anyFail_zero]
          go_wp2
          go_ret
          exact ⟨rfl, hb9⟩
end Go.Proofs.Qxb6627661a
