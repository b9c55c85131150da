/- THE WALK OF FnInQuorumsWholeAnswer. -/
import Derived.Test.Qxb6627671aIn
import Derived.Test.Qxb6627671aHas
import Derived.Deep.RegionWith
namespace Go.Proofs.Qxb6627671a
open Go.RowKit

/-- In, with what it hands back under names. -/
theorem in_named (s0 s1 s8 : ByteArray) (ao : Option Addr) (len cap b off : Nat) (F : Nat → ByteArray) (ao' : Option Addr) (len' cap' b' off' : Nat) (G : Nat → ByteArray) (rt wt rq vn : Int) (rc : Bool) (w : World)
    (hm : len ≤ 4096) (hr : Strs w ao len b off F) (hm' : len' ≤ 4096) (hr' : Strs w ao' len' b' off' G) (hrq : -1073741824 ≤ rq) (hrq1 : rq ≤ 9223372036854775807) :
    Calls Try.prog 7 #[.agg #[.string s0, .string s1, .slice ao len cap, .int .i64 rt, .int .i64 wt, .int .i64 rq, .bool rc], .agg #[.int .u64 vn, .string s8, .slice ao' len' cap']] w fun e w' =>
      ∃ (av : Option Addr) (cv n : Nat) (r k : Int), e = .returned (.agg #[.slice av n cv, .bool (decide (rt ≤ n)), .bool (decide (wt ≤ n)), .int .i64 r, .int .i64 k])
        ∧ Quo rq wt n r k ∧ n ≤ 4096 ∧ Hid (n = (kept F (hasB G len') len).length) ∧ w'.ownsRow w.heap.size 9 1 (.slice av n cv) n (strCells (kept F (hasB G len') len)) ∧ Below w.heap.size w w' := by
  refine (in_any s0 s1 s8 ao len cap b off F ao' len' cap' b' off' G rt wt rq vn rc w hm hr hm' hr' hrq hrq1).mono ?_
  rintro e w' ⟨av, cv, r, k, he, hQ, hown, hb⟩
  have := kept_le F (hasB G len') len
  exact ⟨av, cv, _, r, k, he, hQ, by omega, rfl, hown, hb⟩

/-- zzSortedCopy, with what it hands back under names. -/
theorem sorted_named (ao : Option Addr) (len cap b off : Nat) (X : Nat → ByteArray) (w : World) (hm : len ≤ 4096) (hr : Strs w ao len b off X) :
    Calls Try.prog 8 #[.slice ao len cap] w fun e w' => ∃ (g : Nat) (Y : Nat → ByteArray), e = .returned (.slice (some ⟨g, 0, none⟩) len len) ∧ Hid (Strs w' (some ⟨g, 0, none⟩) len g 0 Y ∧ SortedS Y len ∧ (∀ x, hasB Y len x = hasB X len x)) ∧ Below w.heap.size w w' := by
  refine (sortedCopy_any ao len cap b off X w hm hr).mono ?_
  rintro e w' ⟨Y, he, hrow, hs, hsame, hb⟩
  exact ⟨_, Y, he, ⟨hrow.strs, hs, hsame⟩, hb⟩

/-- A slice of strings that the call itself made, read as strings. -/
theorem own_strs {w : World} {B n cv : Nat} {av : Option Addr} {xs : List ByteArray} (h : w.ownsRow B 9 1 (.slice av n cv) n (strCells xs)) : ∃ g, Strs w av n g 0 (fun i => xs.getD i ByteArray.empty) := by
  have hl := h.1
  rcases h.2 with ⟨h1, h2⟩ | ⟨g, cap, cur, h1, h2⟩
  · subst h2
    exact ⟨0, fun h => absurd h (by omega), fun h => absurd h (by omega), fun _ h => absurd h (by omega)⟩
  · have h3 := h1
    simp only [Value.slice.injEq] at h1
    obtain ⟨rfl, _, rfl⟩ := h1
    refine ⟨g, fun _ => rfl, fun _ => (h.lt g rfl).2, fun i hi => ?_⟩
    rw [Nat.zero_add, h.cellAt i (by omega)]
    simp only [strCells, List.length_map] at hl ⊢
    rw [List.getElem?_map, List.getElem?_eq_getElem (by omega)]
    simp [List.getD, List.getElem?_eq_getElem (show i < xs.length by omega)]

set_option maxHeartbeats 1000000 in
set_option maxRecDepth 20000 in
theorem law_bad (s0 s1 s8 : ByteArray) (ao : Option Addr) (len cap b off : Nat) (F : Nat → ByteArray) (ao' : Option Addr) (len' cap' b' off' : Nat) (G : Nat → ByteArray) (rt wt rq vn : Int) (rc : Bool) (w : World)
    (hm : len ≤ 9223372036854775807) (hr : Strs w ao len b off F) (hm' : len' ≤ 9223372036854775807) (hr' : Strs w ao' len' b' off' G) (hbad : ((4096 : Int) < len ∨ (4096 : Int) < len') ∨ rq < -1073741824) :
    Calls Try.prog 3 #[.string s0, .string s1, .slice ao len cap, .int .i64 rt, .int .i64 wt, .int .i64 rq, .bool rc, .int .u64 vn, .string s8, .slice ao' len' cap'] w fun e w' => e = .returned (.bool true) ∧ Below w.heap.size w w' := by
  rcases (show (4096 : Int) < len ∨ ((len : Int) ≤ 4096 ∧ (4096 : Int) < len') ∨ ((len : Int) ≤ 4096 ∧ (len' : Int) ≤ 4096 ∧ rq < -1073741824) from by omega) with h1 | ⟨h1, h2⟩ | ⟨h1, h2, h3⟩
  all_goals
    clear hbad
    go_enter Try.func3, Try.ntmps3
    go_wp2_with (first
      | (go_at_call 4; refine (zz_any s0 s1 s8 ao len cap b off F ao' len' cap' b' off' G _ _ _ _ _ _ hm hr hm' hr').mono ?_; rintro e w' ⟨⟨b4, rfl⟩, rfl⟩)
      | (go_at_call 5; refine (addLen_any _ _ _).mono ?_; rintro e w' ⟨⟨t5, rfl⟩, rfl⟩)
      | (go_at_call_of 6 (Value.slice ao len cap); refine (addBytes_any ao len cap b off F _ _ hm hr).mono ?_; rintro e w' ⟨⟨t6, rfl⟩, rfl⟩)
      | (go_at_call_of 6 (Value.slice ao' len' cap'); refine (addBytes_any ao' len' cap' b' off' G _ _ hm' hr').mono ?_; rintro e w' ⟨⟨t7, rfl⟩, rfl⟩))
    all_goals (go_ret; exact ⟨rfl, Below.refl _ _⟩)

set_option maxHeartbeats 1000000 in
set_option maxRecDepth 20000 in
theorem law_good (s0 s1 s8 : ByteArray) (ao : Option Addr) (len cap b off : Nat) (F : Nat → ByteArray) (ao' : Option Addr) (len' cap' b' off' : Nat) (G : Nat → ByteArray) (rt wt rq vn : Int) (rc : Bool) (w : World)
    (hm : len ≤ 9223372036854775807) (hr : Strs w ao len b off F) (hm' : len' ≤ 9223372036854775807) (hr' : Strs w ao' len' b' off' G) (hrq1 : rq ≤ 9223372036854775807) (hwt1 : wt ≤ 9223372036854775807) (h1 : (len : Int) ≤ 4096) (h2 : (len' : Int) ≤ 4096) (h3 : -1073741824 ≤ rq) :
    Calls Try.prog 3 #[.string s0, .string s1, .slice ao len cap, .int .i64 rt, .int .i64 wt, .int .i64 rq, .bool rc, .int .u64 vn, .string s8, .slice ao' len' cap'] w fun e w' => e = .returned (.bool true) ∧ Below w.heap.size w w' := by
  obtain ⟨i0, hi, hz0, hz1, hz2⟩ := info_parts Try.info9
  have hbl : Below w.heap.size w ((w.alloc (.cells #[.string s0, .string s1, .slice ao len cap, .int .i64 rt, .int .i64 wt, .int .i64 rq, .bool rc] 28)).alloc (.cells #[.int .u64 vn, .string s8, .slice ao' len' cap'] 32)) := by go_grown
  go_enter Try.func3, Try.ntmps3
  go_wp2_with (first
    | (go_at_call 4; refine (zz_any s0 s1 s8 ao len cap b off F ao' len' cap' b' off' G _ _ _ _ _ _ hm hr hm' hr').mono ?_; rintro e w' ⟨⟨b4, rfl⟩, rfl⟩)
    | (go_at_call 5; refine (addLen_any _ _ _).mono ?_; rintro e w' ⟨⟨t5, rfl⟩, rfl⟩)
    | (go_at_call_of 6 (Value.slice ao len cap); refine (addBytes_any ao len cap b off F _ _ hm hr).mono ?_; rintro e w' ⟨⟨t6, rfl⟩, rfl⟩)
    | (go_at_call_of 6 (Value.slice ao' len' cap'); refine (addBytes_any ao' len' cap' b' off' G _ _ hm' hr').mono ?_; rintro e w' ⟨⟨t7, rfl⟩, rfl⟩))
  iterate 6 (go_ret; exact ⟨rfl, Below.refl _ _⟩)
  refine (in_named s0 s1 s8 ao len cap b off F ao' len' cap' b' off' G rt wt rq vn rc _ (by omega) (hr.below hbl) (by omega) (hr'.below hbl) h3 hrq1).mono ?_
  rintro e w1 ⟨av, cv, n, r, kq, rfl, hQ, hn, HN, hown1, hb1⟩
  have hb1' := hbl.trans (hb1.mono hbl.size)
  have hb2 := hb1'.alloc hb1'.size (.cells #[.slice av n cv, .bool (decide (rt ≤ n)), .bool (decide (wt ≤ n)), .int .i64 r, .int .i64 kq] 34)
  clear hb1
  go_wp2_with fail
  refine (sorted_named ao' len' cap' b' off' G _ (by omega) (hr'.below hb2)).mono ?_
  rintro e w3 ⟨g, Y, rfl, HY, hb3⟩
  go_wp2_with fail
  have hb3' : Below w.heap.size w w3 := hb2.trans (hb3.mono hb2.size)
  have hq : ∀ wr, Below w3.heap.size w3 wr → wr.cell? ⟨w1.heap.size, 0, none⟩ = some (.slice av n cv) ∧ wr.cell? ⟨w1.heap.size, 1, none⟩ = some (.bool (decide (rt ≤ n))) ∧ wr.cell? ⟨w1.heap.size, 2, none⟩ = some (.bool (decide (wt ≤ n))) ∧ wr.cell? ⟨w1.heap.size, 3, none⟩ = some (.int .i64 r) ∧ wr.cell? ⟨w1.heap.size, 4, none⟩ = some (.int .i64 kq) := by
    intro wr h
    have hsz := hb3.size
    simp at hsz
    have f := fun o => h.cell (p := ⟨w1.heap.size, o, none⟩) (by simp; omega)
    have f2 := fun o => hb3.cell (p := ⟨w1.heap.size, o, none⟩) (by simp)
    rw [f 0, f 1, f 2, f 3, f 4, f2 0, f2 1, f2 2, f2 3, f2 4]
    simp [go_sem]
  obtain ⟨gq, hsq⟩ := own_strs (own_below (hown1.alloc _) hb3)
  obtain ⟨xs, hxs⟩ : ∃ xs, xs = kept F (hasB G len') len := ⟨_, rfl⟩
  rw [← hxs] at hsq HN
  obtain ⟨p, hp⟩ : ∃ p, p = hasB G len' := ⟨_, rfl⟩
  have HP : Hid (∀ x, hasB Y len' x = p x) := fun x => by rw [HY.out.2.2 x, hp]
  rw [← hp] at hxs
  have HX : Hid (xs = kept F p len) := hxs
  clear hb3 hb2 hb1' hown1 hbl hxs hp
  go_loopw [26, 27] (fun v i wr => ∃ (k : Nat) (av : Option Addr) (cv : Nat), k ≤ len ∧ i = .int .i64 k ∧ v = .slice av (kept F p k).length cv ∧ wr.ownsRow w3.heap.size 9 1 (.slice av (kept F p k).length cv) (kept F p k).length (strCells (kept F p k)) ∧ Below w3.heap.size w3 wr) (fun _ i _ => len - (intOf i).toNat)
  case atStart => exact ⟨0, none, 0, Nat.zero_le _, rfl, rfl, World.ownsRow_nil _ _ _ _, Below.refl _ _⟩
  case round =>
    obtain ⟨k, aw, cw, hk, rfl, rfl, hown, hbel⟩ := hrel
    have hkl := kept_le F p k
    have hbw : Below w.heap.size w wr := hb3'.trans (hbel.mono hb3'.size)
    by_cases hlt : k < len
    · have hix := hr.idx cap hlt
      have c0 := (hr.below hbw).cell_ k hlt
      cases hf : p (F k) with
      | true =>
        go_wp2_with (first
          | (go_at_call 9; refine (has_any _ _ _ _ _ _ _ _ (by omega) (HY.out.1.below hbel) HY.out.2.1).mono ?_; rintro e w1 ⟨rfl, rfl⟩; rw [HP.out, hf])
          | (at_builtin; refine wpList_append_own _ rfl (.tmp 111) (.tmp 116) 22 rfl w3.heap.size 9 i0 (.string ByteArray.empty) 1 16 Try.underlying22 hi hz0 hz1 hz2 rfl (by decide) _ _ _ rfl (hown.alloc _) ⟨wr.heap.size, 0, none⟩ 1 1 [.string (F k)] rfl rfl (cell_one_new _ _ _) (by intro u hu; simp at hu; subst hu; rfl) (by unfold maxLen; omega) (by omega) (by have := hbel.size; simp; omega) ?_; intro v' w2 hown2 hgr2 _))
        obtain ⟨av', cv', hv', hown3⟩ := step_yes hown2 hf
        have hb2 : Below w3.heap.size w3 w2 := (hbel.alloc hbel.size _).grown hgr2 (by have := hbel.size; simp; omega) (fun q hq => (hown.lt q hq).1)
        go_roundw
        case rel => exact ⟨k + 1, av', cv', by omega, by go_num, hv', hown3, hb2⟩
        case measure => simp [intOf]; omega
      | false =>
        go_wp2_with (first
          | (go_at_call 9; refine (has_any _ _ _ _ _ _ _ _ (by omega) (HY.out.1.below hbel) HY.out.2.1).mono ?_; rintro e w1 ⟨rfl, rfl⟩; rw [HP.out, hf]))
        go_roundw
        case rel => exact ⟨k + 1, aw, cw, by omega, by go_num, by rw [kept_no F p k hf], by rw [kept_no F p k hf]; exact hown, hbel⟩
        case measure => simp [intOf]; omega
    · obtain rfl : k = len := by omega
      rw [← HX.out] at hown ⊢
      rw [← HN.out] at hown ⊢
      clear HP HX HN hkl HY
      obtain ⟨gw, hsw⟩ := own_strs hown
      have hsq' := hsq.below hbel
      obtain ⟨e0, e1, e2, e3, e4⟩ := hq wr hbel
      clear hown hsq hq
      go_wp2
      obtain ⟨wl, rfl⟩ : ∃ wo : World, wo = wr := ⟨_, rfl⟩
      go_loopw [28] (fun i wr => ∃ (j q : Nat), j ≤ n ∧ i = .int .i64 j ∧ wr = wl.drewN q) (fun i _ => n - (intOf i).toNat)
      case atStart => exact ⟨0, 0, Nat.zero_le _, rfl, rfl⟩
      case round =>
        obtain ⟨j, q, hj, rfl, rfl⟩ := hrel
        by_cases hlt2 : j < n
        · have hixA := hsq'.idx cv hlt2
          have hixB := hsw.idx cw hlt2
          obtain ⟨sx, cA, cB⟩ : ∃ sx, wl.cell? ⟨gq, 0 + j, none⟩ = some (.string sx) ∧ wl.cell? ⟨gw, 0 + j, none⟩ = some (.string sx) := ⟨_, hsq'.cell_ j hlt2, hsw.cell_ j hlt2⟩
          simp only [Nat.zero_add] at hixA hixB cA cB
          go_wp2
          go_quiet (fail)
          go_wp2
          go_roundw
          case rel => exact ⟨j + 1, _, by omega, by go_num, rfl⟩
          case measure => simp [intOf]; omega
        · clear hsq' hsw
          obtain ⟨r1, r2, r3, k1, k2, k3, k4⟩ := hQ
          have hk0 : 1 ≤ kq := by omega
          have hkm : kq ≤ 9223372036854775807 := by omega
          have hr0 : -1073741824 ≤ r := by omega
          have hno : ¬ (wt ≤ kq - 1 ∧ (n : Int) - r < kq - 1 ∧ (n : Int) - (kq - 1) < kq - 1) := by omega
          have HNO : Hid _ := hno
          clear hno k4
          rcases (show (rq ≤ r) ∨ (¬ rq ≤ r ∧ (n : Int) ≤ r) from by omega) with hr3 | ⟨hr4, hr3⟩
          all_goals
            clear r3
            go_wp2_with fail
            refine (writeOK_yes kq n r wt _ k3 (by omega) (by omega) (by omega) (by omega) hr0 (by omega) (by omega) hkm).mono ?_
            rintro e w5 ⟨rfl, rfl⟩
            go_wp2_with fail
            refine (writeOK_no (kq - 1) n r wt _ HNO.out (by omega) (by omega) hr0 (by omega) (by omega) (by omega)).mono ?_
            rintro e w5 ⟨rfl, rfl⟩
            go_wp2
            go_ret
            exact ⟨rfl, below_drewN hbw _⟩

set_option maxHeartbeats 1000000 in
theorem law_any (s0 s1 s8 : ByteArray) (ao : Option Addr) (len cap b off : Nat) (F : Nat → ByteArray) (ao' : Option Addr) (len' cap' b' off' : Nat) (G : Nat → ByteArray) (rt wt rq vn : Int) (rc : Bool) (w : World)
    (hm : len ≤ 9223372036854775807) (hr : Strs w ao len b off F) (hm' : len' ≤ 9223372036854775807) (hr' : Strs w ao' len' b' off' G) (hrq1 : rq ≤ 9223372036854775807) (hwt1 : wt ≤ 9223372036854775807) :
    Calls Try.prog 3 #[.string s0, .string s1, .slice ao len cap, .int .i64 rt, .int .i64 wt, .int .i64 rq, .bool rc, .int .u64 vn, .string s8, .slice ao' len' cap'] w fun e w' => e = .returned (.bool true) ∧ Below w.heap.size w w' := by
  by_cases hbad : ((4096 : Int) < len ∨ (4096 : Int) < len') ∨ rq < -1073741824
  · exact law_bad s0 s1 s8 ao len cap b off F ao' len' cap' b' off' G rt wt rq vn rc w hm hr hm' hr' hbad
  · exact law_good s0 s1 s8 ao len cap b off F ao' len' cap' b' off' G rt wt rq vn rc w hm hr hm' hr' hrq1 hwt1 (by omega) (by omega) (by omega)
end Go.Proofs.Qxb6627671a
