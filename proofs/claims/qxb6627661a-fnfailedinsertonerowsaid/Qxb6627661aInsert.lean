/- THE WALK OF FnFailedInsertOneRow. -/
import Derived.Test.Qxb6627661aInsParts
namespace Go.Proofs.Qxb6627661a
open Go.RowKit

set_option maxHeartbeats 1000000 in
theorem insert_any (ao : Option Addr) (len cap b off : Nat) (S : Nat → Nat → ByteArray) (k0 : Int) (s0 s1 s2 s3 : ByteArray) (w : World) (hm : len ≤ 9223372036854775807) (hr : Rows4 w ao len b off S) :
    Calls Try.prog 3 #[.slice ao len cap, .int .i64 k0, .agg #[.string s0, .string s1, .string s2, .string s3]] w fun e w' => e = .returned (.bool true) ∧ Below w.heap.size w w' := by
  obtain ⟨i0, hi, hz0, hz1, hz2⟩ := info_parts Try.info32
  have hbl := (Below.refl w.heap.size w).alloc (Nat.le_refl _) (.cells #[.string s0, .string s1, .string s2, .string s3] 24)
  by_cases hlen : (65536 : Int) < len
  · go_enter Try.func3, Try.ntmps3
    go_wp2_with (first
      | (go_at_call 5; refine (zzInsert_any _ _ _ _ _ _ _ _ _ _ _ _ hm (hr.below hbl)).mono ?_; rintro e w1 ⟨⟨b', rfl⟩, hb1⟩))
    all_goals (go_ret; exact ⟨rfl, hbl.trans (hb1.mono (by simp))⟩)
  by_cases hk0 : k0 < 0 ∨ (len : Int) < k0
  · rcases hk0 with hk0 | hk0
    all_goals
      go_enter Try.func3, Try.ntmps3
      go_wp2_with (first
        | (go_at_call 5; refine (zzInsert_any _ _ _ _ _ _ _ _ _ _ _ _ hm (hr.below hbl)).mono ?_; rintro e w1 ⟨⟨b', rfl⟩, hb1⟩; replace hbl := hbl.trans (hb1.mono (by simp)); obtain ⟨d0, d1, d2, d3⟩ := box4 hb1)
        | (go_at_call 6; refine (failRowAdd_any _ _ _ _ _ _).mono ?_; rintro e w2 ⟨t', b'', rfl, hb2⟩; replace hbl := hbl.trans (hb2.mono hbl.size))
        | (go_at_call 7; refine (failRowsFit_any _ _ _ _ _ _ _ _ hm (hr.below hbl)).mono ?_; rintro e w3 ⟨⟨b3, rfl⟩, hb3⟩; replace hbl := hbl.trans (hb3.mono hbl.size)))
      all_goals (go_ret; exact ⟨rfl, hbl⟩)
  obtain ⟨k, rfl⟩ : ∃ k : Nat, k0 = k := ⟨k0.toNat, by omega⟩
  have hk1 : (k : Int) ≤ len := by omega
  clear hk0
  go_enter Try.func3, Try.ntmps3
  go_wp2_with (first
        | (go_at_call 5; refine (zzInsert_any _ _ _ _ _ _ _ _ _ _ _ _ hm (hr.below hbl)).mono ?_; rintro e w1 ⟨⟨b', rfl⟩, hb1⟩; replace hbl := hbl.trans (hb1.mono (by simp)); obtain ⟨d0, d1, d2, d3⟩ := box4 hb1)
        | (go_at_call 6; refine (failRowAdd_any _ _ _ _ _ _).mono ?_; rintro e w2 ⟨t', b'', rfl, hb2⟩; replace hbl := hbl.trans (hb2.mono hbl.size); replace hb1 := hb1.trans (hb2.mono hb1.size))
        | (go_at_call 7; refine (failRowsFit_any _ _ _ _ _ _ _ _ hm (hr.below hbl)).mono ?_; rintro e w3 ⟨⟨b3, rfl⟩, hb3⟩; replace hbl := hbl.trans (hb3.mono hbl.size); replace hb1 := hb1.trans (hb3.mono hb1.size))
        | (at_make; refine wpList_make_own _ rfl _ (.tmp 41) 29 rfl w3.heap.size 32 i0 _ 4 Try.underlying29 hi hz0 hz1 _ _ _ len rfl rfl rfl (by rw [hz2]; omega) (by unfold maxLen; omega) (Nat.le_refl _) ?_; intro w4 hown4 hgr4; have hs4 := hown4.lt _ rfl)
        | (at_make; refine wpList_make_own _ rfl _ (.tmp 45) 29 rfl w4.heap.size 32 i0 _ 4 Try.underlying29 hi hz0 hz1 _ _ _ (len + 1) rfl rfl (by omega) (by rw [hz2]; omega) (by unfold maxLen; omega) (Nat.le_refl _) ?_; intro w5 hown5 hgr5))
  · go_ret; exact ⟨rfl, hbl⟩
  · go_ret; exact ⟨rfl, hbl⟩
  · go_ret; exact ⟨rfl, hbl⟩
  obtain ⟨W0, hW0⟩ : ∃ W0, W0 = w.alloc (.cells #[.string s0, .string s1, .string s2, .string s3] 24) := ⟨_, rfl⟩
  have box : ∀ wr, Below W0.heap.size W0 wr → wr.cell? ⟨w.heap.size, 0, none⟩ = some (.string s0) ∧ wr.cell? ⟨w.heap.size, 1, none⟩ = some (.string s1) ∧ wr.cell? ⟨w.heap.size, 2, none⟩ = some (.string s2) ∧ wr.cell? ⟨w.heap.size, 3, none⟩ = some (.string s3) := by
    subst hW0; exact fun wr h => box4 h
  have hwW : Below w.heap.size w W0 ∧ w.heap.size ≤ W0.heap.size := by
    subst hW0; exact ⟨(Below.refl w.heap.size w).alloc (Nat.le_refl _) _, by simp⟩
  obtain ⟨g1, hg1⟩ : ∃ g, g = w3.heap.size := ⟨_, rfl⟩
  obtain ⟨g2, hg2⟩ : ∃ g, g = w4.heap.size := ⟨_, rfl⟩
  have hTwo : Two W0 w5 g1 g2 len S (ins k (row4 s0 s1 s2 s3) S) 0 0 ∧ W0.heap.size ≤ g1 ∧ g1 < g2 := by
    subst hW0 hg1 hg2
    have hb4 := hb1.grown hgr4 hb1.size (by simp)
    exact ⟨⟨hb4.grown hgr5 hb4.size (by simp), hown4.kept hgr5 (.inr (by simp [Value.ownBlock])), hown5⟩, hb1.size, hs4.2⟩
  obtain ⟨hTwo, hG1, hG2⟩ := hTwo
  rw [← hg1, ← hg2]
  clear hb1 hbl hown4 hgr4 hown5 hgr5 hs4 hg1 hg2 hW0 d0 d1 d2 d3 hb2 hb3
  go_loopw [9, 10, 11] (fun v u i wr => ∃ (j m : Nat), j ≤ len ∧ (j ≤ k ∧ m = j ∨ k < j ∧ m = j + 1) ∧ i = .int .i64 j ∧ v = .slice (some ⟨g1, 0, none⟩) j len ∧ u = .slice (some ⟨g2, 0, none⟩) m (len + 1) ∧ Two W0 wr g1 g2 len S (ins k (row4 s0 s1 s2 s3) S) j m) (fun _ _ i _ => len - (intOf i).toNat)
  case atStart => exact ⟨0, 0, Nat.zero_le _, .inl ⟨Nat.zero_le _, rfl⟩, rfl, rfl, rfl, hTwo⟩
  case round =>
    clear hTwo
    obtain ⟨j, m, hj, hjm, rfl, rfl, rfl, hI⟩ := hrel
    by_cases hlt : j < len
    · obtain ⟨d0, d1, d2, d3⟩ := box _ hI.bel
      have hix := hr.idx cap hlt
      obtain ⟨c0, c1, c2, c3⟩ := (hr.below (hwW.1.trans (hI.bel.mono hwW.2))).cells hlt
      rcases (show (j < k ∧ j = m) ∨ (j = k ∧ j = m) ∨ (k < j ∧ j + 1 = m) from by omega) with ⟨hjk, rfl⟩ | ⟨rfl, rfl⟩ | ⟨hjk, rfl⟩
      · clear hjm
        go_wp2_with (first
          | (go_at_call 8; refine (failToRow_any _ _ _ _ _).mono ?_; rintro e w6 ⟨rfl, hb6⟩; replace hI := hI.below hb6; clear c0 c1 c2 c3)
          | (at_builtin; refine wpList_append_fits _ rfl (.tmp 61) (.tmp 67) 29 rfl g1 32 i0 4 Try.underlying29 hi hz1 g1 j len (cellsOf4 S j) rfl (hI.ownB.alloc _) ⟨w6.heap.size, 0, none⟩ 1 1 [.string (S j 0), .string (S j 1), .string (S j 2), .string (S j 3)] rfl rfl (four_new _ _ _ _ _) (four_one _ _ _ _) (by omega) ?_; intro w7 hown7 hgr7; replace hI := hI.pushB hG1 hG2 hown7 hgr7; clear hown7 hgr7; obtain ⟨c0, c1, c2, c3⟩ := (hr.below (hwW.1.trans (hI.bel.mono hwW.2))).cells hlt)
          | (at_builtin; refine wpList_append_fits _ rfl (.tmp 69) (.tmp 75) 29 rfl g2 32 i0 4 Try.underlying29 hi hz1 g2 (j) (len + 1) (cellsOf4 (ins k (row4 s0 s1 s2 s3) S) (j)) rfl (hI.ownW.alloc _) ⟨w6.heap.size, 0, none⟩ 1 1 [.string (S j 0), .string (S j 1), .string (S j 2), .string (S j 3)] rfl rfl (four_new _ _ _ _ _) (four_one _ _ _ _) (by omega) ?_; intro w7 hown7 hgr7; replace hI := hI.pushW hG1 hG2 hown7 hgr7 (by rw [ins_lt _ _ _ _ hjk]) (by rw [ins_lt _ _ _ _ hjk]) (by rw [ins_lt _ _ _ _ hjk]) (by rw [ins_lt _ _ _ _ hjk]); clear hown7 hgr7))
        go_roundw
        case rel => exact ⟨j + 1, j + 1, by omega, .inl ⟨by omega, rfl⟩, by go_num, rfl, rfl, hI⟩
        case measure => simp [intOf]; omega
      · clear hjm
        go_wp2_with (first
          | (go_at_call 8; refine (failToRow_any _ _ _ _ _).mono ?_; rintro e w6 ⟨rfl, hb6⟩; replace hI := hI.below hb6)
          | (at_builtin; refine wpList_append_fits _ rfl (.tmp 56) (.tmp 59) 29 rfl g2 32 i0 4 Try.underlying29 hi hz1 g2 j (len + 1) (cellsOf4 (ins j (row4 s0 s1 s2 s3) S) j) rfl (hI.ownW.alloc _) ⟨w6.heap.size, 0, none⟩ 1 1 [.string s0, .string s1, .string s2, .string s3] rfl rfl (four_new _ _ _ _ _) (four_one _ _ _ _) (by omega) ?_; intro w7 hown7 hgr7; replace hI := hI.pushW hG1 hG2 hown7 hgr7 (by rw [ins_at]; rfl) (by rw [ins_at]; rfl) (by rw [ins_at]; rfl) (by rw [ins_at]; rfl); clear hown7 hgr7; obtain ⟨c0, c1, c2, c3⟩ := (hr.below (hwW.1.trans (hI.bel.mono hwW.2))).cells hlt)
          | (at_builtin; refine wpList_append_fits _ rfl (.tmp 61) (.tmp 67) 29 rfl g1 32 i0 4 Try.underlying29 hi hz1 g1 j len (cellsOf4 S j) rfl (hI.ownB.alloc _) ⟨w6.heap.size, 0, none⟩ 1 1 [.string (S j 0), .string (S j 1), .string (S j 2), .string (S j 3)] rfl rfl (four_new _ _ _ _ _) (four_one _ _ _ _) (by omega) ?_; intro w7 hown7 hgr7; replace hI := hI.pushB hG1 hG2 hown7 hgr7; clear hown7 hgr7; obtain ⟨c0, c1, c2, c3⟩ := (hr.below (hwW.1.trans (hI.bel.mono hwW.2))).cells hlt)
          | (at_builtin; refine wpList_append_fits _ rfl (.tmp 69) (.tmp 75) 29 rfl g2 32 i0 4 Try.underlying29 hi hz1 g2 (j + 1) (len + 1) (cellsOf4 (ins j (row4 s0 s1 s2 s3) S) (j + 1)) rfl (hI.ownW.alloc _) ⟨w6.heap.size, 0, none⟩ 1 1 [.string (S j 0), .string (S j 1), .string (S j 2), .string (S j 3)] rfl rfl (four_new _ _ _ _ _) (four_one _ _ _ _) (by omega) ?_; intro w7 hown7 hgr7; replace hI := hI.pushW hG1 hG2 hown7 hgr7 (by rw [ins_gt _ _ _ _ (Nat.le_refl _)]) (by rw [ins_gt _ _ _ _ (Nat.le_refl _)]) (by rw [ins_gt _ _ _ _ (Nat.le_refl _)]) (by rw [ins_gt _ _ _ _ (Nat.le_refl _)]); clear hown7 hgr7))
        go_roundw
        case rel => exact ⟨j + 1, j + 2, by omega, .inr ⟨by omega, rfl⟩, by go_num, rfl, rfl, hI⟩
        case measure => simp [intOf]; omega
      · clear hjm
        go_wp2_with (first
          | (go_at_call 8; refine (failToRow_any _ _ _ _ _).mono ?_; rintro e w6 ⟨rfl, hb6⟩; replace hI := hI.below hb6; clear c0 c1 c2 c3)
          | (at_builtin; refine wpList_append_fits _ rfl (.tmp 61) (.tmp 67) 29 rfl g1 32 i0 4 Try.underlying29 hi hz1 g1 j len (cellsOf4 S j) rfl (hI.ownB.alloc _) ⟨w6.heap.size, 0, none⟩ 1 1 [.string (S j 0), .string (S j 1), .string (S j 2), .string (S j 3)] rfl rfl (four_new _ _ _ _ _) (four_one _ _ _ _) (by omega) ?_; intro w7 hown7 hgr7; replace hI := hI.pushB hG1 hG2 hown7 hgr7; clear hown7 hgr7; obtain ⟨c0, c1, c2, c3⟩ := (hr.below (hwW.1.trans (hI.bel.mono hwW.2))).cells hlt)
          | (at_builtin; refine wpList_append_fits _ rfl (.tmp 69) (.tmp 75) 29 rfl g2 32 i0 4 Try.underlying29 hi hz1 g2 (j + 1) (len + 1) (cellsOf4 (ins k (row4 s0 s1 s2 s3) S) (j + 1)) rfl (hI.ownW.alloc _) ⟨w6.heap.size, 0, none⟩ 1 1 [.string (S j 0), .string (S j 1), .string (S j 2), .string (S j 3)] rfl rfl (four_new _ _ _ _ _) (four_one _ _ _ _) (by omega) ?_; intro w7 hown7 hgr7; replace hI := hI.pushW hG1 hG2 hown7 hgr7 (by rw [ins_gt _ _ _ _ (Nat.le_of_lt hjk)]) (by rw [ins_gt _ _ _ _ (Nat.le_of_lt hjk)]) (by rw [ins_gt _ _ _ _ (Nat.le_of_lt hjk)]) (by rw [ins_gt _ _ _ _ (Nat.le_of_lt hjk)]); clear hown7 hgr7))
        go_roundw
        case rel => exact ⟨j + 1, j + 2, by omega, .inr ⟨by omega, rfl⟩, by go_num, rfl, rfl, hI⟩
        case measure => simp [intOf]; omega
    · obtain rfl : j = len := by omega
      obtain ⟨d0, d1, d2, d3⟩ := box _ hI.bel
      have hT := anyFail_ins k j (row4 s0 s1 s2 s3) S (by omega)
      have hR : isFail (row4 s0 s1 s2 s3 3) = (s3.toList == [102, 97, 105, 108]) := rfl
      rw [hR] at hT
      clear hR
      rcases (show (k < j ∧ j + 1 = m) ∨ (j = k ∧ j = m) from by omega) with ⟨hjk, rfl⟩ | ⟨rfl, rfl⟩
      · clear hjm
        rcases hB : anyFail S j with _ | _ <;> rcases hE : (s3.toList == [102, 97, 105, 108]) with _ | _ <;> rw [hB, hE] at hT <;> simp only [Bool.or_false, Bool.or_true] at hT
        all_goals
          go_wp2_with fail
          refine (failed_any _ _ _ _ _ S _ (by omega) (by simpa using rows_of_own hI.ownB 0 j (by omega))).mono ?_
          rintro e w5 ⟨rfl, hb5⟩
          replace hI := hI.below hb5
          clear d0 d1 d2 d3
          obtain ⟨d0, d1, d2, d3⟩ := box _ hI.bel
          go_wp2_with fail
          refine (failed_any _ _ _ _ _ (ins k (row4 s0 s1 s2 s3) S) _ (by omega) (by simpa using rows_of_own hI.ownW 0 (j + 1) (by omega))).mono ?_
          rintro e w6 ⟨rfl, hb6⟩
          replace hI := hI.below hb6
          go_wp2
          go_ret
          exact ⟨rfl, hwW.1.trans (hI.bel.mono hwW.2)⟩
      · clear hjm
        go_wp2_with (first
          | (go_at_call 8; refine (failToRow_any _ _ _ _ _).mono ?_; rintro e w6 ⟨rfl, hb6⟩; replace hI := hI.below hb6)
          | (at_builtin; refine wpList_append_fits _ rfl (.tmp 81) (.tmp 84) 29 rfl g2 32 i0 4 Try.underlying29 hi hz1 g2 j (j + 1) (cellsOf4 (ins j (row4 s0 s1 s2 s3) S) j) rfl (hI.ownW.alloc _) ⟨w6.heap.size, 0, none⟩ 1 1 [.string s0, .string s1, .string s2, .string s3] rfl rfl (four_new _ _ _ _ _) (four_one _ _ _ _) (by omega) ?_; intro w7 hown7 hgr7; replace hI := hI.pushW hG1 hG2 hown7 hgr7 (by rw [ins_at]; rfl) (by rw [ins_at]; rfl) (by rw [ins_at]; rfl) (by rw [ins_at]; rfl); clear hown7 hgr7))
        rcases hB : anyFail S j with _ | _ <;> rcases hE : (s3.toList == [102, 97, 105, 108]) with _ | _ <;> rw [hB, hE] at hT <;> simp only [Bool.or_false, Bool.or_true] at hT
        all_goals
          refine (failed_any _ _ _ _ _ S _ (by omega) (by simpa using rows_of_own hI.ownB 0 j (by omega))).mono ?_
          rintro e w5 ⟨rfl, hb5⟩
          replace hI := hI.below hb5
          clear d0 d1 d2 d3
          obtain ⟨d0, d1, d2, d3⟩ := box _ hI.bel
          go_wp2_with fail
          refine (failed_any _ _ _ _ _ (ins j (row4 s0 s1 s2 s3) S) _ (by omega) (by simpa using rows_of_own hI.ownW 0 (j + 1) (by omega))).mono ?_
          rintro e w6 ⟨rfl, hb6⟩
          replace hI := hI.below hb6
          go_wp2
          go_ret
          exact ⟨rfl, hwW.1.trans (hI.bel.mono hwW.2)⟩
end Go.Proofs.Qxb6627661a
