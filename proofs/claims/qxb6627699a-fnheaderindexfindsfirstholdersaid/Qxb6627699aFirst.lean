/- THE WALK OF FnHeaderIndexFindsFirstHolder. -/
import Derived.Test.Qxb6627699aWalks
namespace Go.Proofs.Qxb6627699a
open Go.RowKit

set_option maxHeartbeats 1000000 in
set_option maxRecDepth 20000 in
theorem first_any (ao : Option Addr) (len cap b off : Nat) (f : Nat → Fld) (p0 : Int) (w : World) (hm : len ≤ 9223372036854775807) (hr : Flds w ao len b off f) :
    Calls Try.prog 4 #[.slice ao len cap, .int .i64 p0] w fun e w' => e = .returned (.bool true) ∧ Below w.heap.size w w' := by
  by_cases hlen : (65536 : Int) < len
  · go_enter Try.func4, Try.ntmps4
    go_wp2_with (go_at_call 8; refine (zzFirst_any _ _ _ _ _ _ _ _ hm hr).mono ?_; rintro e w' ⟨⟨b', rfl⟩, rfl⟩)
    all_goals (go_ret; exact ⟨rfl, Below.refl _ _⟩)
  go_enter Try.func4, Try.ntmps4
  go_wp2_with (go_at_call 8; refine (zzFirst_any _ _ _ _ _ _ _ _ hm hr).mono ?_; rintro e w' ⟨⟨b', rfl⟩, rfl⟩)
  · go_ret; exact ⟨rfl, Below.refl _ _⟩
  go_loop [5, 6] (fun z i => ∃ (k : Nat) (n : Int), k ≤ len ∧ i = .int .i64 k ∧ z = .int .i64 n) (fun _ i => len - (intOf i).toNat)
  case atStart => exact ⟨0, 0, Nat.zero_le _, rfl, rfl⟩
  case round =>
    obtain ⟨k, n, hk, rfl, rfl⟩ := hrel
    by_cases hlt : k < len
    · have hix := hr.idx cap hlt
      obtain ⟨s, c0⟩ : ∃ s : ByteArray, w.cell? ⟨b, off + k * 4, none⟩ = some (.string s) := ⟨_, (hr.cells hlt).1⟩
      go_wp2
      all_goals first
        | (go_ret; exact ⟨rfl, Below.refl _ _⟩)
        | (go_round
           case rel => exact ⟨k + 1, _, by omega, by go_num, rfl⟩
           case measure => simp [intOf]; omega)
    · obtain rfl : k = len := by omega
      by_cases hp0 : p0 < 0
      · go_wp2
        go_ret; exact ⟨rfl, Below.refl _ _⟩
      by_cases hp1 : (k : Int) ≤ p0
      · go_wp2
        go_ret; exact ⟨rfl, Below.refl _ _⟩
      obtain ⟨p, rfl⟩ : ∃ p : Nat, p0 = p := ⟨p0.toNat, by omega⟩
      have hp : p < k := by omega
      go_wp2_with fail
      refine (toFields_any ao k cap b off f _ (by omega) hr).mono ?_
      rintro e w1 ⟨av, cv, g, rfl, hcv, hf1, hb1⟩
      have hix := hf1.idx26 cv hp
      obtain ⟨c0, c1, c2, c3⟩ := hf1.cells hp
      simp only [Nat.zero_add] at hix c0 c1 c2 c3
      obtain ⟨nm, hnm⟩ : ∃ nm, nm = (f p).nm := ⟨_, rfl⟩
      rw [← hnm] at c0
      have HNM : Hid (nm = (f p).nm) := hnm
      clear hnm
      go_wp2_with fail
      refine (index_any _ _ _ _ _ _ _ _ av k cv g 0 f nm _ (by omega) hf1).mono ?_
      rintro e w2 ⟨⟨r, rfl, hI⟩, hb2⟩
      rcases hI with ⟨i, rfl, hi, hx, hj⟩ | ⟨_, hj⟩
      · have hip : i ≤ p := by
          by_cases h : i ≤ p
          · exact h
          · exact absurd HNM.out.symm (hj p (by omega))
        have HJ : Hid (∀ j, j < i → (f j).nm ≠ nm) := hj
        have hix2 := hf1.idx26 cv hi
        have hf2 := hf1.below hb2
        have d0 := (hf2.cells hi).1
        rw [hx] at d0
        simp only [Nat.zero_add] at hix2 d0
        clear hx hj hix c0 c1 c2 c3
        go_wp2_with fail
        refine (index_any _ _ _ _ _ _ _ _ av i cv g 0 f nm _ (by omega) (hf2.front i (by omega))).mono ?_
        rintro e w3 ⟨⟨r3, rfl, hI⟩, hb3⟩
        obtain rfl : r3 = -1 := hI.one (.inr ⟨rfl, HJ.out⟩)
        go_wp2
        go_ret
        exact ⟨rfl, (hb1.trans (hb2.mono hb1.size)).trans (hb3.mono (Nat.le_trans hb1.size hb2.size))⟩
      · exact absurd HNM.out.symm (hj p hp)
end Go.Proofs.Qxb6627699a
