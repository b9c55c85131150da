/- THE WALK OF FnHeaderIndexJoinAtAnyCut. -/
import Derived.Test.Qxb6627699aJoinParts
namespace Go.Proofs.Qxb6627699a
open Go.RowKit

set_option maxHeartbeats 1000000 in
set_option maxRecDepth 20000 in
theorem join_bad (ao : Option Addr) (len cap b off : Nat) (f : Nat → Fld) (ao' : Option Addr) (len' cap' b' off' : Nat) (f' : Nat → Fld) (s2 : ByteArray) (w : World) (hm : len ≤ 9223372036854775807) (hr : Flds w ao len b off f) (hm' : len' ≤ 9223372036854775807) (hr' : Flds w ao' len' b' off' f')
    (hbad : (65536 : Int) < len ∨ (65536 : Int) < len' ∨ (1048576 : Int) < s2.size) :
    Calls Try.prog 3 #[.slice ao len cap, .slice ao' len' cap', .string s2] w fun e w' => e = .returned (.bool true) ∧ Below w.heap.size w w' := by
  rcases (show (65536 : Int) < len ∨ ((len : Int) ≤ 65536 ∧ (65536 : Int) < len') ∨ ((len : Int) ≤ 65536 ∧ (len' : Int) ≤ 65536 ∧ (1048576 : Int) < s2.size) from by omega) with h1 | ⟨h1, h2⟩ | ⟨h1, h2, h3⟩
  all_goals
    clear hbad
    go_enter Try.func3, Try.ntmps3
    go_wp2_with (go_at_call 5; refine (zzJoin_any _ _ _ _ _ _ _ _ _ _ _ _ _ _ hm hr hm' hr').mono ?_; rintro e w' ⟨⟨b5, rfl⟩, rfl⟩)
    all_goals (go_ret; exact ⟨rfl, Below.refl _ _⟩)

set_option maxHeartbeats 2000000 in
set_option maxRecDepth 20000 in
theorem join_good (ao : Option Addr) (len cap b off : Nat) (f : Nat → Fld) (ao' : Option Addr) (len' cap' b' off' : Nat) (f' : Nat → Fld) (s2 : ByteArray) (w : World) (hm : len ≤ 9223372036854775807) (hr : Flds w ao len b off f) (hm' : len' ≤ 9223372036854775807) (hr' : Flds w ao' len' b' off' f')
    (h1 : (len : Int) ≤ 65536) (h2 : (len' : Int) ≤ 65536) (h3 : (s2.size : Int) ≤ 1048576) :
    Calls Try.prog 3 #[.slice ao len cap, .slice ao' len' cap', .string s2] w fun e w' => e = .returned (.bool true) ∧ Below w.heap.size w w' := by
  obtain ⟨i0, hi, hz0, hz1, hz2⟩ := info_parts Try.info30
  go_enter Try.func3, Try.ntmps3
  go_wp2_with (go_at_call 5; refine (zzJoin_tells _ _ _ _ _ _ _ _ _ _ _ _ _ _ hm hr hm' hr').mono ?_; rintro e w' ⟨⟨b5, rfl, hb5⟩, rfl⟩)
  · go_ret; exact ⟨rfl, Below.refl _ _⟩
  have hb : (!b5) = false := by assumption
  have hsz : ∀ i, i < len → (f i).nm.size ≤ 1048576 := hb5 (by simpa using hb)
  have HSZ : Hid (∀ i, i < len → (f i).nm.size ≤ 1048576) := hsz
  clear hb5 hsz hb
  go_loop [7, 8] (fun z i => ∃ (k : Nat) (n : Int), k ≤ len ∧ i = .int .i64 k ∧ z = .int .i64 n) (fun _ i => len - (intOf i).toNat)
  case atStart => exact ⟨0, _, Nat.zero_le _, rfl, rfl⟩
  case round =>
    obtain ⟨k, n, hk, rfl, rfl⟩ := hrel
    by_cases hlt : k < len
    · have hix := hr.idx cap hlt
      obtain ⟨s, c0⟩ : ∃ s : ByteArray, w.cell? ⟨b, off + k * 4, none⟩ = some (.string s) := ⟨_, (hr.cells hlt).1⟩
      go_wp2
      all_goals first
        | (go_ret; exact ⟨rfl, Below.refl _ _⟩)
        | (go_round
           case rel => exact ⟨k + 1, _, by omega, by go_num, rfl⟩
           case measure => simp [intOf]; omega)
    obtain rfl : k = len := by omega
    clear hlt hk
    go_wp2
    go_loop [7, 9] (fun z i => ∃ (j : Nat) (n : Int), j ≤ len' ∧ i = .int .i64 j ∧ z = .int .i64 n) (fun _ i => len' - (intOf i).toNat)
    case atStart => exact ⟨0, _, Nat.zero_le _, rfl, rfl⟩
    case round =>
      obtain ⟨j, n', hj, rfl, rfl⟩ := hrel
      by_cases hlt : j < len'
      · have hix := hr'.idx cap' hlt
        obtain ⟨s, c0⟩ : ∃ s : ByteArray, w.cell? ⟨b', off' + j * 4, none⟩ = some (.string s) := ⟨_, (hr'.cells hlt).1⟩
        go_wp2
        all_goals first
          | (go_ret; exact ⟨rfl, Below.refl _ _⟩)
          | (go_round
             case rel => exact ⟨j + 1, _, by omega, by go_num, rfl⟩
             case measure => simp [intOf]; omega)
      obtain rfl : j = len' := by omega
      clear hlt hj
      go_wp2_with fail
      refine (toFields_any ao k cap b off f _ (by omega) hr).mono ?_
      rintro e w1 ⟨av, cv, ga, rfl, hcv, hfa, hb1⟩
      go_wp2_with fail
      refine (toFields_any ao' j cap' b' off' f' _ (by omega) (hr'.below hb1)).mono ?_
      rintro e w2 ⟨av', cv', gb, rfl, hcv', hfb, hb2⟩
      replace hfa := hfa.below hb2
      have hbw2 : Below w.heap.size w w2 := hb1.trans (hb2.mono hb1.size)
      clear hb1 hb2
      go_wp2_with (at_make; refine wpList_make_own _ rfl _ (.tmp 88) 26 rfl w2.heap.size 30 i0 _ 4 Try.underlying26 hi hz0 hz1 _ _ _ (k + j) rfl rfl (by omega) (by rw [hz2]; omega) (by unfold maxLen; omega) (Nat.le_refl _) ?_; intro w3 hown3 hgr3)
      obtain ⟨g3, hg3⟩ : ∃ g, g = w2.heap.size := ⟨_, rfl⟩
      have hB : Bld w2 w3 g3 (k + j) (cat k f f') 0 := by subst hg3; exact ⟨(Below.refl _ _).grown hgr3 (Nat.le_refl _) (by simp), hown3⟩
      have hG : w2.heap.size ≤ g3 := Nat.le_of_eq hg3.symm
      rw [← hg3]
      clear hg3 hown3 hgr3
      go_loopw [12, 13] (fun v i wr => ∃ (m : Nat), m ≤ k ∧ i = .int .i64 m ∧ v = .slice (some ⟨g3, 0, none⟩) m (k + j) ∧ Bld w2 wr g3 (k + j) (cat k f f') m) (fun _ i _ => k - (intOf i).toNat)
      case atStart => exact ⟨0, Nat.zero_le _, rfl, rfl, hB⟩
      case round =>
        clear hB
        obtain ⟨m, hmk, rfl, rfl, hB⟩ := hrel
        by_cases hlt : m < k
        · have hix := hfa.idx26 cv hlt
          obtain ⟨c0, c1, c2, c3⟩ := (hfa.below hB.bel).cells hlt
          simp only [Nat.zero_add] at hix c0 c1 c2 c3
          go_wp2_with (at_builtin; refine wpList_append_fits _ rfl (.tmp 96) (.tmp 101) 26 rfl g3 30 i0 4 Try.underlying26 hi hz1 g3 m (k + j) (cellsF (cat k f f') m) rfl (hB.own.alloc _) ⟨wr.heap.size, 0, none⟩ 1 1 [.string (f m).nm, .int .u8 (f m).ty, .int .i64 (f m).wd, .int .i64 (f m).dc] rfl rfl (four_new _ _ _ _ _) (four_one _ _ _ _) (by omega) ?_; intro w7 hown7 hgr7; replace hB := hB.push hG (cat_lt hlt) hown7 hgr7; clear hown7 hgr7)
          go_roundw
          case rel => exact ⟨m + 1, by omega, by go_num, rfl, hB⟩
          case measure => simp [intOf]; omega
        obtain rfl : m = k := by omega
        clear hlt hmk
        go_wp2
        go_loopw [12, 14] (fun v i wr => ∃ (q : Nat), q ≤ j ∧ i = .int .i64 q ∧ v = .slice (some ⟨g3, 0, none⟩) (m + q) (m + j) ∧ Bld w2 wr g3 (m + j) (cat m f f') (m + q)) (fun _ i _ => j - (intOf i).toNat)
        case atStart => exact ⟨0, Nat.zero_le _, rfl, rfl, hB⟩
        case round =>
          clear hB
          obtain ⟨q, hqj, rfl, rfl, hB⟩ := hrel
          by_cases hlt : q < j
          · have hix := hfb.idx26 cv' hlt
            obtain ⟨c0, c1, c2, c3⟩ := (hfb.below hB.bel).cells hlt
            simp only [Nat.zero_add] at hix c0 c1 c2 c3
            go_wp2_with (at_builtin; refine wpList_append_fits _ rfl (.tmp 109) (.tmp 114) 26 rfl g3 30 i0 4 Try.underlying26 hi hz1 g3 (m + q) (m + j) (cellsF (cat m f f') (m + q)) rfl (hB.own.alloc _) ⟨wr.heap.size, 0, none⟩ 1 1 [.string (f' q).nm, .int .u8 (f' q).ty, .int .i64 (f' q).wd, .int .i64 (f' q).dc] rfl rfl (four_new _ _ _ _ _) (four_one _ _ _ _) (by omega) ?_; intro w7 hown7 hgr7; replace hB := hB.push hG cat_ge hown7 hgr7; clear hown7 hgr7)
            go_roundw
            case rel => exact ⟨q + 1, by omega, by go_num, rfl, hB⟩
            case measure => simp [intOf]; omega
          obtain rfl : q = j := by omega
          clear hlt hqj
          obtain ⟨w4, rfl⟩ : ∃ wo : World, wo = wr := ⟨_, rfl⟩
          go_wp2_with fail
          refine (index_any _ _ _ _ _ _ _ _ av m cv ga 0 f s2 _ (by omega) (hfa.below hB.bel)).mono ?_
          rintro e w5 ⟨⟨ra, rfl, hIa⟩, hb5⟩
          go_wp2_with fail
          refine (index_any _ _ _ _ _ _ _ _ av' q cv' gb 0 f' s2 _ (by omega) ((hfb.below hB.bel).below hb5)).mono ?_
          rintro e w6 ⟨⟨rb, rfl, hIb⟩, hb6⟩
          go_wp2_with fail
          refine (index_any _ _ _ _ _ _ _ _ (some ⟨g3, 0, none⟩) (m + q) (m + q) g3 0 (cat m f f') s2 _ (by omega) ((hB.flds.below hb5).below hb6)).mono ?_
          rintro e w7 ⟨⟨rj, rfl, hIj⟩, hb7⟩
          have hbel : Below w2.heap.size w2 w7 := by
            have z4 := hB.bel.size
            have z5 := hb5.size
            have z6 := hb6.size
            exact ((hB.bel.trans (hb5.mono (by omega))).trans (hb6.mono (by omega))).trans (hb7.mono (by omega))
          have hcat := idx_cat hIa hIb hIj
          clear hIa hIb hIj hB hb5 hb6 hb7 hG
          have hfa7 := hfa.below hbel
          have hfb7 := hfb.below hbel
          have hr7 := hr.below (hbw2.trans (hbel.mono hbw2.size))
          have hbw7 := hbw2.trans (hbel.mono hbw2.size)
          clear hfa hfb hbel hr' hr hbw2
          rcases hcat with ⟨hra, rfl⟩ | ⟨rfl, hrb, hrb2, rfl⟩ | ⟨rfl, rfl, rfl⟩
          all_goals
            go_wp2
            go_loop [19, 20] (fun z i => ∃ (t L : Nat), t ≤ m ∧ L ≤ 1048576 ∧ i = .int .i64 t ∧ z = .int .i64 L ∧ Hid (∀ i, i < t → (f i).nm.size ≤ L)) (fun _ i => m - (intOf i).toNat)
            case atStart => exact ⟨0, 0, Nat.zero_le _, Nat.zero_le _, rfl, rfl, fun i h => absurd h (by omega)⟩
            case round =>
              obtain ⟨t, L, ht, hL, rfl, rfl, HL⟩ := hrel
              by_cases hlt : t < m
              · have hix := hr7.idx cap hlt
                obtain ⟨s, hs, hs2, c0⟩ : ∃ s, s = (f t).nm ∧ s.size ≤ 1048576 ∧ w7.cell? ⟨b, off + t * 4, none⟩ = some (.string s) := ⟨_, rfl, HSZ.out t hlt, (hr7.cells hlt).1⟩
                have HS : Hid (s = (f t).nm) := hs
                clear hs
                by_cases hgt : (L : Int) < s.size
                · go_wp2
                  go_round
                  case rel =>
                    refine ⟨t + 1, s.size, by omega, hs2, by go_num, rfl, fun i hi => ?_⟩
                    by_cases e : i = t
                    · subst e; rw [← HS.out]; exact Nat.le_refl _
                    · have := HL.out i (by omega); omega
                  case measure => simp [intOf]; omega
                · go_wp2
                  go_round
                  case rel =>
                    refine ⟨t + 1, L, by omega, hL, by go_num, rfl, fun i hi => ?_⟩
                    by_cases e : i = t
                    · subst e; rw [← HS.out]; omega
                    · exact HL.out i (by omega)
                  case measure => simp [intOf]; omega
              obtain rfl : t = m := by omega
              clear hlt ht
              have hmk := run_make_row' (P := Try.prog) 34 5 (.int .u8 0) 1 Try.underlying34 Try.info5 rfl .i64 .i64 (L + 1) (by omega) (by omega)
              rw [show ((L + 1 : Nat) : Int) = (L : Int) + 1 by omega] at hmk
              obtain ⟨fr, hfr, hcv7⟩ := zeros_string w7 (L + 1)
              have HFR : Hid (fr.size = L + 1) := hfr
              clear hfr
              go_wp2_with (at_make; refine wpList_make_own _ rfl _ (.tmp 166) 26 rfl (w7.alloc (.cells (madeCells #[.int .u8 0] (L + 1)) 5)).heap.size 30 i0 _ 4 Try.underlying26 hi hz0 hz1 _ _ _ (t + q + 1) rfl rfl (by omega) (by rw [hz2]; omega) (by unfold maxLen; omega) (Nat.le_refl _) ?_; intro w9 hown9 hgr9)
              obtain ⟨g4, hg4⟩ : ∃ g, g = w7.heap.size + 1 := ⟨_, rfl⟩
              have hB : Bld w7 w9 g4 (t + q + 1) (mark t f ⟨fr, 0, 0, 0⟩ f') 0 := by
                subst hg4
                have hb8 := (Below.refl w7.heap.size w7).alloc (Nat.le_refl _) (.cells (madeCells #[.int .u8 0] (L + 1)) 5)
                exact ⟨hb8.grown hgr9 hb8.size (by simp), by have h0 := hown9; simp at h0; exact h0⟩
              have hG : w7.heap.size ≤ g4 := by omega
              rw [← hg4]
              clear hg4 hown9 hgr9 hmk hcv7 hr7
              go_loopw [22, 23] (fun v i wr => ∃ (u : Nat), u ≤ t ∧ i = .int .i64 u ∧ v = .slice (some ⟨g4, 0, none⟩) u (t + q + 1) ∧ Bld w7 wr g4 (t + q + 1) (mark t f ⟨fr, 0, 0, 0⟩ f') u) (fun _ i _ => t - (intOf i).toNat)
              case atStart => exact ⟨0, Nat.zero_le _, rfl, rfl, hB⟩
              case round =>
                clear hB
                obtain ⟨u, hu, rfl, rfl, hB⟩ := hrel
                by_cases hlt : u < t
                · have hix := hfa7.idx26 cv hlt
                  obtain ⟨c0, c1, c2, c3⟩ := (hfa7.below hB.bel).cells hlt
                  simp only [Nat.zero_add] at hix c0 c1 c2 c3
                  go_wp2_with (at_builtin; refine wpList_append_fits _ rfl (.tmp 174) (.tmp 179) 26 rfl g4 30 i0 4 Try.underlying26 hi hz1 g4 u (t + q + 1) (cellsF (mark t f ⟨fr, 0, 0, 0⟩ f') u) rfl (hB.own.alloc _) ⟨wr.heap.size, 0, none⟩ 1 1 [.string (f u).nm, .int .u8 (f u).ty, .int .i64 (f u).wd, .int .i64 (f u).dc] rfl rfl (four_new _ _ _ _ _) (four_one _ _ _ _) (by omega) ?_; intro w8 hown8 hgr8; replace hB := hB.push hG (mark_lt hlt) hown8 hgr8; clear hown8 hgr8)
                  go_roundw
                  case rel => exact ⟨u + 1, by omega, by go_num, rfl, hB⟩
                  case measure => simp [intOf]; omega
                obtain rfl : u = t := by omega
                clear hlt hu
                go_wp2_with (at_builtin; refine wpList_append_fits _ rfl (.tmp 181) (.tmp 184) 26 rfl g4 30 i0 4 Try.underlying26 hi hz1 g4 u (u + q + 1) (cellsF (mark u f ⟨fr, 0, 0, 0⟩ f') u) rfl (hB.own.alloc _) ⟨wr.heap.size, 0, none⟩ 1 1 [.string fr, .int .u8 0, .int .i64 0, .int .i64 0] rfl rfl (four_new _ _ _ _ _) (four_one _ _ _ _) (by omega) ?_; intro w8 hown8 hgr8; replace hB := hB.push (x := ⟨fr, 0, 0, 0⟩) hG mark_at hown8 hgr8; clear hown8 hgr8)
                go_loopw [22, 24] (fun v i wr => ∃ (d : Nat), d ≤ q ∧ i = .int .i64 d ∧ v = .slice (some ⟨g4, 0, none⟩) (u + 1 + d) (u + q + 1) ∧ Bld w7 wr g4 (u + q + 1) (mark u f ⟨fr, 0, 0, 0⟩ f') (u + 1 + d)) (fun _ i _ => q - (intOf i).toNat)
                case atStart => exact ⟨0, Nat.zero_le _, rfl, rfl, hB⟩
                case round =>
                  clear hB
                  obtain ⟨d, hd, rfl, rfl, hB⟩ := hrel
                  by_cases hlt : d < q
                  · have hix := hfb7.idx26 cv' hlt
                    obtain ⟨c0, c1, c2, c3⟩ := (hfb7.below hB.bel).cells hlt
                    simp only [Nat.zero_add] at hix c0 c1 c2 c3
                    go_wp2_with (at_builtin; refine wpList_append_fits _ rfl (.tmp 192) (.tmp 197) 26 rfl g4 30 i0 4 Try.underlying26 hi hz1 g4 (u + 1 + d) (u + q + 1) (cellsF (mark u f ⟨fr, 0, 0, 0⟩ f') (u + 1 + d)) rfl (hB.own.alloc _) ⟨wr.heap.size, 0, none⟩ 1 1 [.string (f' d).nm, .int .u8 (f' d).ty, .int .i64 (f' d).wd, .int .i64 (f' d).dc] rfl rfl (four_new _ _ _ _ _) (four_one _ _ _ _) (by omega) ?_; intro w8 hown8 hgr8; replace hB := hB.push hG mark_gt hown8 hgr8; clear hown8 hgr8)
                    go_roundw
                    case rel => exact ⟨d + 1, by omega, by go_num, rfl, hB⟩
                    case measure => simp [intOf]; omega
                  obtain rfl : d = q := by omega
                  clear hlt hd
                  go_wp2_with fail
                  refine (index_any _ _ _ _ _ _ _ _ (some ⟨g4, 0, none⟩) (u + 1 + d) (u + d + 1) g4 0 (mark u f ⟨fr, 0, 0, 0⟩ f') fr _ (by omega) hB.flds).mono ?_
                  rintro e w10 ⟨⟨ri, rfl, hIi⟩, hb10⟩
                  obtain rfl : ri = u := idx_mark (x := ⟨fr, 0, 0, 0⟩) (fun i hi => by have := HL.out i hi; have := HFR.out; show (f i).nm.size < fr.size; omega) hIi
                  have hend : Below w.heap.size w w10 := (hbw7.trans (hB.bel.mono hbw7.size)).trans (hb10.mono (Nat.le_trans hbw7.size hB.bel.size))
                  go_wp2
                  go_ret
                  exact ⟨rfl, hend⟩

theorem join_any (ao : Option Addr) (len cap b off : Nat) (f : Nat → Fld) (ao' : Option Addr) (len' cap' b' off' : Nat) (f' : Nat → Fld) (s2 : ByteArray) (w : World) (hm : len ≤ 9223372036854775807) (hr : Flds w ao len b off f) (hm' : len' ≤ 9223372036854775807) (hr' : Flds w ao' len' b' off' f') :
    Calls Try.prog 3 #[.slice ao len cap, .slice ao' len' cap', .string s2] w fun e w' => e = .returned (.bool true) ∧ Below w.heap.size w w' := by
  by_cases hbad : (65536 : Int) < len ∨ (65536 : Int) < len' ∨ (1048576 : Int) < s2.size
  · exact join_bad ao len cap b off f ao' len' cap' b' off' f' s2 w hm hr hm' hr' hbad
  · exact join_good ao len cap b off f ao' len' cap' b' off' f' s2 w hm hr hm' hr' (by omega) (by omega) (by omega)
end Go.Proofs.Qxb6627699a
