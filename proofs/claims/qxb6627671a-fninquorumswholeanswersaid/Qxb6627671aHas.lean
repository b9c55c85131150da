/- THE WALKS OF zzHas AND zzWriteOK. -/
import Derived.Test.Qxb6627671aWalks
namespace Go.Proofs.Qxb6627671a
open Go.RowKit

set_option maxHeartbeats 400000 in
theorem has_any (ao : Option Addr) (len cap b off : Nat) (Y : Nat → ByteArray) (x : ByteArray) (w : World) (hm : len ≤ 9223372036854775807) (hr : Strs w ao len b off Y) (hs : SortedS Y len) :
    Calls Try.prog 9 #[.slice ao len cap, .string x] w fun e w' => e = .returned (.bool (hasB Y len x)) ∧ w = w' := by
  have HS : Hid (SortedS Y len) := hs
  clear hs
  go_enter Try.func9, Try.ntmps9
  go_wp2
  go_loop [5, 6] (fun lo hi => ∃ (l h : Nat), l ≤ h ∧ h ≤ len ∧ lo = .int .i64 l ∧ hi = .int .i64 h ∧ Hid ((∀ i, i < l → Op.bytesLess (Y i).toList x.toList = true) ∧ (∀ i, h ≤ i → i < len → Op.bytesLess (Y i).toList x.toList = false))) (fun lo hi => (intOf hi).toNat - (intOf lo).toNat)
  case atStart => exact ⟨0, len, Nat.zero_le _, Nat.le_refl _, rfl, rfl, fun i hi => absurd hi (by omega), fun i h1 h2 => absurd h1 (by omega)⟩
  case round =>
    obtain ⟨l, h, hl, hh, rfl, rfl, HI⟩ := hrel
    by_cases hlt : l < h
    · have hml : l + (h - l) / 2 < len := by omega
      have hix := hr.idx cap hml
      have em : ((l + (h - l) / 2 : Nat) : Int) = (l : Int) + ((h : Int) - (l : Int)) / 2 := by omega
      rw [em] at hix
      clear em
      have c0 := hr.cell_ _ hml
      cases hf : Op.bytesLess (Y (l + (h - l) / 2)).toList x.toList with
      | true =>
        go_wp2
        go_round
        case rel => exact ⟨l + (h - l) / 2 + 1, h, by omega, hh, by go_num, rfl, half_up Y len _ x HS.out hml hf, HI.out.2⟩
        case measure => simp [intOf]; omega
      | false =>
        go_wp2
        go_round
        case rel => exact ⟨l, l + (h - l) / 2, by omega, by omega, rfl, by go_num, HI.out.1, half_down Y len _ x HS.out hf⟩
        case measure => simp [intOf]; omega
    · obtain rfl : l = h := by omega
      have HE : Hid _ := half_end Y len l x HS.out HI.out.1 HI.out.2
      by_cases hln : l < len
      · have hix := hr.idx cap hln
        have c0 := hr.cell_ _ hln
        go_wp2
        go_ret
        exact ⟨ret_bool (HE.out.1 hln).symm, rfl⟩
      · have hd : decide ((l : Int) < (len : Int)) = false := by simp; omega
        go_wp2
        go_ret
        exact ⟨ret_bool (HE.out.2 hln).symm, rfl⟩

set_option maxHeartbeats 400000 in
theorem writeOK_yes (k n r wt : Int) (w : World) (h1 : wt ≤ k) (h2 : n - r < k) (h3 : n - k < k) (hn0 : 0 ≤ n) (hn1 : n ≤ 4096) (hr0 : -1073741824 ≤ r) (hr1 : r ≤ 4096) (hk0 : 0 ≤ k) (hk1 : k ≤ 9223372036854775807) :
    Calls Try.prog 10 #[.int .i64 k, .int .i64 n, .int .i64 r, .int .i64 wt] w fun e w' => e = .returned (.bool true) ∧ w = w' := by
  go_enter Try.func10, Try.ntmps10
  go_wp2
  go_ret
  exact ⟨rfl, rfl⟩

set_option maxHeartbeats 400000 in
theorem writeOK_no (k n r wt : Int) (w : World) (h1 : ¬ (wt ≤ k ∧ n - r < k ∧ n - k < k)) (hn0 : 0 ≤ n) (hn1 : n ≤ 4096) (hr0 : -1073741824 ≤ r) (hr1 : r ≤ 4096) (hk0 : 0 ≤ k) (hk1 : k ≤ 9223372036854775807) :
    Calls Try.prog 10 #[.int .i64 k, .int .i64 n, .int .i64 r, .int .i64 wt] w fun e w' => e = .returned (.bool false) ∧ w = w' := by
  by_cases a : wt ≤ k
  · by_cases b : n - r < k
    · have c : ¬ n - k < k := by omega
      clear h1
      go_enter Try.func10, Try.ntmps10
      go_wp2
      go_ret
      exact ⟨rfl, rfl⟩
    · clear h1
      go_enter Try.func10, Try.ntmps10
      go_wp2
      go_ret
      exact ⟨rfl, rfl⟩
  · clear h1
    go_enter Try.func10, Try.ntmps10
    go_wp2
    go_ret
    exact ⟨rfl, rfl⟩
end Go.Proofs.Qxb6627671a
