/- THE WALKS OF THE SMALL FUNCTIONS. -/
import Derived.Test.Qxb6627671aRows
import Derived.Test.Qxb6627671aPlain
import Derived.WalkKit
import Derived.WalkSpells
import Derived.WalkLawsBesides
import Derived.Handy
namespace Go.Proofs.Qxb6627671a
open Go.RowKit

/-- It returned one bool. -/
def RetB (e : Ending) : Prop := ∃ b : Bool, e = .returned (.bool b)
/-- It returned one int. -/
def RetI (e : Ending) : Prop := ∃ t : Int, e = .returned (.int .i64 t)
theorem ret_bool {a b : Bool} (h : a = b) : Ending.returned (.bool a) = .returned (.bool b) := by rw [h]

/-- What is known of a slice of strings that is read. -/
structure Strs (w : World) (ao : Option Addr) (len b off : Nat) (S : Nat → ByteArray) : Prop where
  at_ : 0 < len → ao = some ⟨b, off, none⟩
  lt_ : 0 < len → b < w.heap.size
  cell_ : ∀ i, i < len → w.cell? ⟨b, off + i, none⟩ = some (.string (S i))

theorem Strs.below {w w' : World} {ao : Option Addr} {len b off : Nat} {S : Nat → ByteArray} (h : Strs w ao len b off S) (hb : Below w.heap.size w w') : Strs w' ao len b off S :=
  ⟨h.at_, fun hl => Nat.lt_of_lt_of_le (h.lt_ hl) hb.size, fun i hi => (hb.cell (p := ⟨b, _, none⟩) (h.lt_ (by omega))).trans (h.cell_ i hi)⟩

theorem Strs.idx {w : World} {ao : Option Addr} {len b off : Nat} {S : Nat → ByteArray} (h : Strs w ao len b off S) (cap : Nat) {i : Nat} (hi : i < len) (wx : World) :
    (Instr.indexAt 22 (.slice ao len cap) (.int .i64 (i : Int))).run Try.prog wx = .ok (.pointer (some ⟨b, off + i, none⟩)) wx := by
  obtain rfl := h.at_ (by omega)
  have hlt : (i : Int) < len := by omega
  simp [go_sem, hlt, Try.underlying22, Addr.add]

theorem Strs.anyString {w : World} {ao : Option Addr} {len b off : Nat} {S : Nat → ByteArray} (h : Strs w ao len b off S) {i : Nat} (hi : i < len) : ∃ s : ByteArray, w.cell? ⟨b, off + i, none⟩ = some (.string s) := ⟨_, h.cell_ i hi⟩

set_option maxHeartbeats 400000 in
theorem addLen_any (t n : Int) (w : World) : Calls Try.prog 5 #[.int .i64 t, .int .i64 n] w fun e w' => RetI e ∧ w = w' := by
  go_enter Try.func5, Try.ntmps5
  go_wp2
  all_goals (go_ret; exact ⟨⟨_, rfl⟩, rfl⟩)

set_option maxHeartbeats 400000 in
theorem addBytes_any (ao : Option Addr) (len cap b off : Nat) (S : Nat → ByteArray) (t : Int) (w : World) (hm : len ≤ 9223372036854775807) (hr : Strs w ao len b off S) :
    Calls Try.prog 6 #[.int .i64 t, .slice ao len cap] w fun e w' => RetI e ∧ w = w' := by
  go_enter Try.func6, Try.ntmps6
  go_wp2
  go_loop [0, 5] (fun z i => ∃ (k : Nat) (n : Int), k ≤ len ∧ i = .int .i64 k ∧ z = .int .i64 n) (fun _ i => len - (intOf i).toNat)
  case atStart => exact ⟨0, t, Nat.zero_le _, rfl, rfl⟩
  case round =>
    obtain ⟨k, n, hk, rfl, rfl⟩ := hrel
    by_cases hlt : k < len
    · have hix := hr.idx cap hlt
      obtain ⟨s, c0⟩ := hr.anyString hlt
      go_wp2
      all_goals first
        | (go_ret; exact ⟨⟨_, rfl⟩, rfl⟩)
        | (go_round
           case rel => exact ⟨k + 1, _, by omega, by go_num, rfl⟩
           case measure => simp [intOf]; omega)
    · go_wp2
      all_goals (go_ret; exact ⟨⟨_, rfl⟩, rfl⟩)

set_option maxHeartbeats 400000 in
set_option maxRecDepth 20000 in
/-- The byte bound laid by program: whatever it answers. -/
theorem zz_any (s0 s1 s8 : ByteArray) (ao : Option Addr) (len cap b off : Nat) (S : Nat → ByteArray) (ao' : Option Addr) (len' cap' b' off' : Nat) (S' : Nat → ByteArray) (i3 i4 i5 i7 : Int) (r6 : Bool) (w : World) (hm : len ≤ 9223372036854775807) (hr : Strs w ao len b off S) (hm' : len' ≤ 9223372036854775807) (hr' : Strs w ao' len' b' off' S') :
    Calls Try.prog 4 #[.string s0, .string s1, .slice ao len cap, .int .i64 i3, .int .i64 i4, .int .i64 i5, .bool r6, .int .u64 i7, .string s8, .slice ao' len' cap'] w fun e w' => RetB e ∧ w = w' := by
  go_enter Try.func4, Try.ntmps4
  go_wp2
  all_goals try (go_ret; exact ⟨⟨_, rfl⟩, rfl⟩)
  go_loop [21, 22] (fun z i => ∃ (k : Nat) (n : Int), k ≤ len ∧ 0 ≤ n ∧ n ≤ 1048576 ∧ i = .int .i64 k ∧ z = .int .i64 n) (fun _ i => len - (intOf i).toNat)
  case atStart => exact ⟨0, _, Nat.zero_le _, by omega, by assumption, rfl, rfl⟩
  case round =>
    obtain ⟨k, n, hk, hn0, hn1, rfl, rfl⟩ := hrel
    by_cases hlt : k < len
    · have hix := hr.idx cap hlt
      obtain ⟨s, c0⟩ := hr.anyString hlt
      go_wp2
      all_goals first
        | (go_ret; exact ⟨⟨_, rfl⟩, rfl⟩)
        | (go_round
           case rel => refine ⟨k + 1, _, by omega, ?_, ?_, by go_num, rfl⟩ <;> omega
           case measure => simp [intOf]; omega)
    · go_wp2
      all_goals try (go_ret; exact ⟨⟨_, rfl⟩, rfl⟩)
      go_loop [21, 23] (fun z i => ∃ (k : Nat) (n : Int), k ≤ len' ∧ 0 ≤ n ∧ n ≤ 1048576 ∧ i = .int .i64 k ∧ z = .int .i64 n) (fun _ i => len' - (intOf i).toNat)
      case atStart => exact ⟨0, _, Nat.zero_le _, by omega, by assumption, rfl, rfl⟩
      case round =>
        obtain ⟨k, n, hk, hn0, hn1, rfl, rfl⟩ := hrel
        by_cases hlt : k < len'
        · have hix := hr'.idx cap' hlt
          obtain ⟨s, c0⟩ := hr'.anyString hlt
          go_wp2
          all_goals first
            | (go_ret; exact ⟨⟨_, rfl⟩, rfl⟩)
            | (go_round
               case rel => refine ⟨k + 1, _, by omega, ?_, ?_, by go_num, rfl⟩ <;> omega
               case measure => simp [intOf]; omega)
        · go_wp2
          all_goals (go_ret; exact ⟨⟨_, rfl⟩, rfl⟩)

set_option maxHeartbeats 400000 in
theorem index_any (ao : Option Addr) (len cap b off : Nat) (S : Nat → ByteArray) (x : ByteArray) (w : World) (hm : len ≤ 9223372036854775807) (hr : Strs w ao len b off S) :
    Calls Try.prog 12 #[.slice ao len cap, .string x] w fun e w' => (∃ r : Int, e = .returned (.int .i64 r) ∧ decide (0 ≤ r) = hasB S len x) ∧ w = w' := by
  go_enter Try.func12, Try.ntmps12
  go_wp2
  go_loop [8] (fun i => ∃ (k : Nat), k ≤ len ∧ i = .int .i64 k ∧ hasB S k x = false) (fun i => len - (intOf i).toNat)
  case atStart => exact ⟨0, Nat.zero_le _, rfl, rfl⟩
  case round =>
    obtain ⟨k, hk, rfl, hno⟩ := hrel
    by_cases hlt : k < len
    · have hix := hr.idx cap hlt
      have c0 := hr.cell_ k hlt
      have HN : Hid (hasB S k x = false) := hno
      clear hno
      by_cases hf : (x.toList == (S k).toList) = true
      · go_wp2
        go_ret
        exact ⟨⟨_, rfl, by rw [hasB_of S len k x hlt hf]; simp⟩, rfl⟩
      · simp only [Bool.not_eq_true] at hf
        go_wp2
        go_round
        case rel => exact ⟨k + 1, by omega, by go_num, by rw [hasB_succ, HN.out, hf]; rfl⟩
        case measure => simp [intOf]; omega
    · obtain rfl : k = len := by omega
      have HN : Hid (hasB S k x = false) := hno
      clear hno
      go_wp2
      go_ret
      exact ⟨⟨_, rfl, by rw [HN.out]; rfl⟩, rfl⟩

set_option maxHeartbeats 400000 in
theorem contains_any (ao : Option Addr) (len cap b off : Nat) (S : Nat → ByteArray) (x : ByteArray) (w : World) (hm : len ≤ 9223372036854775807) (hr : Strs w ao len b off S) :
    Calls Try.prog 11 #[.slice ao len cap, .string x] w fun e w' => e = .returned (.bool (hasB S len x)) ∧ w = w' := by
  go_enter Try.func11, Try.ntmps11
  go_wp2_with (go_at_call 12; refine (index_any _ _ _ _ _ _ _ _ hm hr).mono ?_; rintro e w' ⟨⟨r, rfl, hd⟩, rfl⟩)
  go_ret
  exact ⟨rfl, rfl⟩
end Go.Proofs.Qxb6627671a
