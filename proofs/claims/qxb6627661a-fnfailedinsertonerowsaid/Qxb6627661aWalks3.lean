/- THE WALKS OF failToRow AND check.Failed. -/
import Derived.Test.Qxb6627661aWalks2
namespace Go.Proofs.Qxb6627661a
open Go.RowKit

theorem grown_of_below {w w' : World} (h : Below w.heap.size w w') : w.grownBy w' none := ⟨h.os, h.tape, h.output, h.size, fun k hk _ => h.block k hk⟩

theorem Rows4.idx29 {w : World} {ao : Option Addr} {len b off : Nat} {S : Nat → Nat → ByteArray} (h : Rows4 w ao len b off S) (cap : Nat) {i : Nat} (hi : i < len) (wx : World) :
    (Instr.indexAt 29 (.slice ao len cap) (.int .i64 (i : Int))).run Try.prog wx = .ok (.pointer (some ⟨b, off + i * 4, none⟩)) wx := by
  obtain rfl := h.at_ (by omega)
  have hlt : (i : Int) < len := by omega
  simp [go_sem, hlt, Try.underlying29, Addr.add]

def isFail (s : ByteArray) : Bool := s.toList == [102, 97, 105, 108]
def anyFail (S : Nat → Nat → ByteArray) (n : Nat) : Bool := (List.range n).any fun i => isFail (S i 3)

theorem anyFail_succ (S : Nat → Nat → ByteArray) (n : Nat) : anyFail S (n + 1) = (anyFail S n || isFail (S n 3)) := by
  simp [anyFail, List.range_succ]
theorem anyFail_of (S : Nat → Nat → ByteArray) (n k : Nat) (hk : k < n) (h : isFail (S k 3) = true) : anyFail S n = true := by
  simp only [anyFail, List.any_eq_true]
  exact ⟨k, by simpa using hk, h⟩

theorem ret_bool {a b : Bool} (h : a = b) : Ending.returned (.bool a) = .returned (.bool b) := by rw [h]

set_option maxHeartbeats 400000 in
theorem failToRow_any (s0 s1 s2 s3 : ByteArray) (w : World) :
    Calls Try.prog 8 #[.agg #[.string s0, .string s1, .string s2, .string s3]] w fun e w' => e = .returned (.agg #[.string s0, .string s1, .string s2, .string s3]) ∧ Below w.heap.size w w' := by
  go_enter Try.func8, Try.ntmps8
  go_wp2
  go_returns
  exact ⟨rfl, by go_grown⟩

set_option maxHeartbeats 400000 in
theorem failed_any (ao : Option Addr) (len cap b off : Nat) (S : Nat → Nat → ByteArray) (w : World) (hm : len ≤ 9223372036854775807) (hr : Rows4 w ao len b off S) :
    Calls Try.prog 9 #[.slice ao len cap] w fun e w' => e = .returned (.bool (anyFail S len)) ∧ Below w.heap.size w w' := by
  go_enter Try.func9, Try.ntmps9
  go_wp2
  go_loopw [7] (fun i wr => ∃ (k : Nat), k ≤ len ∧ i = .int .i64 k ∧ anyFail S k = false ∧ Below w.heap.size w wr) (fun i _ => len - (intOf i).toNat)
  case atStart => exact ⟨0, Nat.zero_le _, rfl, rfl, Below.refl _ _⟩
  case round =>
    obtain ⟨k, hk, rfl, hnf, hbel⟩ := hrel
    by_cases hlt : k < len
    · have hr' := hr.below hbel
      have hix := hr'.idx29 cap hlt
      obtain ⟨c0, c1, c2, c3⟩ := hr'.cells hlt
      have hsz := hbel.size
      have HS : Hid (anyFail S k = false) := hnf
      clear hr' hnf
      by_cases hf : ((S k 3).toList == [102, 97, 105, 108]) = true
      · go_wp2
        go_ret
        exact ⟨ret_bool (anyFail_of S len k hlt hf).symm, by go_grown⟩
      · simp only [Bool.not_eq_true] at hf
        go_wp2
        go_roundw
        case rel => exact ⟨k + 1, by omega, by go_num, by rw [anyFail_succ, HS.out, isFail, hf]; rfl, by go_grown⟩
        case measure => simp [intOf]; omega
    · obtain rfl : k = len := by omega
      go_wp2
      go_ret
      exact ⟨ret_bool hnf.symm, hbel⟩
end Go.Proofs.Qxb6627661a
