/- THE WALKS OF THE SMALL FUNCTIONS. -/
import Derived.Test.Qxb6627736aDoorRows
import Derived.Test.Qxb6627736aDoorPlain
import Derived.WalkKit
import Derived.WalkSpells
import Derived.WalkLawsBesides
import Derived.Handy
import Derived.Deep.OwnRows
import Derived.Deep.QuietTactic
import Derived.Deep.RegionWith
import Derived.BigQuiet
import Derived.Lib.SliceRun
import Derived.Lib.UnsafeStr
import Derived.Laws.CopyOwn
namespace Go.Proofs.Qxb6627736aDoor
open Go.RowKit

/-- It returned one int. -/
def RetI (e : Ending) : Prop := ∃ t : Int, e = .returned (.int .i64 t)
/-- It returned a bool; where that is true, P. -/
def RetZ (e : Ending) (P : Prop) : Prop := ∃ b : Bool, e = .returned (.bool b) ∧ (b = true → P)
theorem ret_bool {a b : Bool} (h : a = b) : Ending.returned (.bool a) = .returned (.bool b) := by rw [h]

/-- What is known of a slice of strings that is read. -/
structure Strs (w : World) (ao : Option Addr) (len b off : Nat) (S : Nat → ByteArray) : Prop where
  at_ : 0 < len → ao = some ⟨b, off, none⟩
  lt_ : 0 < len → b < w.heap.size
  cell_ : ∀ i, i < len → w.cell? ⟨b, off + i, none⟩ = some (.string (S i))
/-- What is known of a slice of bytes that is read. -/
structure Bys (w : World) (ao : Option Addr) (len b off : Nat) (K : Nat → UInt8) : Prop where
  at_ : 0 < len → ao = some ⟨b, off, none⟩
  lt_ : 0 < len → b < w.heap.size
  cell_ : ∀ i, i < len → w.cell? ⟨b, off + i, none⟩ = some (.int .u8 ((K i).toNat : Int))

theorem Strs.below {w w' : World} {B : Nat} {ao : Option Addr} {len b off : Nat} {S : Nat → ByteArray} (h : Strs w ao len b off S) (hb : Below B w w') (hB : 0 < len → b < B) : Strs w' ao len b off S :=
  ⟨h.at_, fun hl => Nat.lt_of_lt_of_le (h.lt_ hl) hb.size, fun i hi => (hb.cell (p := ⟨b, _, none⟩) (hB (by omega))).trans (h.cell_ i hi)⟩
theorem Bys.below {w w' : World} {B : Nat} {ao : Option Addr} {len b off : Nat} {K : Nat → UInt8} (h : Bys w ao len b off K) (hb : Below B w w') (hB : 0 < len → b < B) : Bys w' ao len b off K :=
  ⟨h.at_, fun hl => Nat.lt_of_lt_of_le (h.lt_ hl) hb.size, fun i hi => (hb.cell (p := ⟨b, _, none⟩) (hB (by omega))).trans (h.cell_ i hi)⟩
theorem Strs.drewN {w : World} {ao : Option Addr} {len b off : Nat} {S : Nat → ByteArray} (h : Strs w ao len b off S) (q : Nat) : Strs (w.drewN q) ao len b off S := ⟨h.at_, h.lt_, h.cell_⟩
theorem Bys.drewN {w : World} {ao : Option Addr} {len b off : Nat} {K : Nat → UInt8} (h : Bys w ao len b off K) (q : Nat) : Bys (w.drewN q) ao len b off K := ⟨h.at_, h.lt_, h.cell_⟩

theorem Strs.idx {w : World} {ao : Option Addr} {len b off : Nat} {S : Nat → ByteArray} (h : Strs w ao len b off S) (cap : Nat) {i : Nat} (hi : i < len) (wx : World) :
    (Instr.indexAt 23 (.slice ao len cap) (.int .i64 (i : Int))).run Tryd.prog wx = .ok (.pointer (some ⟨b, off + i, none⟩)) wx := by
  obtain rfl := h.at_ (by omega)
  have hlt : (i : Int) < len := by omega
  simp [go_sem, hlt, Tryd.underlying23, Addr.add]
theorem Bys.idx {w : World} {ao : Option Addr} {len b off : Nat} {K : Nat → UInt8} (h : Bys w ao len b off K) (cap : Nat) {i : Nat} (hi : i < len) (wx : World) :
    (Instr.indexAt 22 (.slice ao len cap) (.int .i64 (i : Int))).run Tryd.prog wx = .ok (.pointer (some ⟨b, off + i, none⟩)) wx := by
  obtain rfl := h.at_ (by omega)
  have hlt : (i : Int) < len := by omega
  simp [go_sem, hlt, Tryd.underlying22, Addr.add]

set_option maxHeartbeats 400000 in
theorem addLen_any (t n : Int) (w : World) : Calls Tryd.prog 6 #[.int .i64 t, .int .i64 n] w fun e w' => RetI e ∧ w = w' := by
  by_cases h1 : (1048576 : Int) < t
  · go_enter Tryd.func6, Tryd.ntmps6
    go_wp2
    all_goals (go_ret; exact ⟨⟨_, rfl⟩, rfl⟩)
  · by_cases h2 : (1048576 : Int) < n
    all_goals
      go_enter Tryd.func6, Tryd.ntmps6
      go_wp2
      all_goals (go_ret; exact ⟨⟨_, rfl⟩, rfl⟩)

set_option maxHeartbeats 400000 in
theorem addStrings_any (ao : Option Addr) (len cap b off : Nat) (S : Nat → ByteArray) (t : Int) (w : World) (hm : len ≤ 9223372036854775807) (hr : Strs w ao len b off S) :
    Calls Tryd.prog 7 #[.int .i64 t, .slice ao len cap] w fun e w' => RetI e ∧ w = w' := by
  go_enter Tryd.func7, Tryd.ntmps7
  go_wp2
  go_loop [0, 9] (fun z i => ∃ (k : Nat) (n : Int), k ≤ len ∧ i = .int .i64 k ∧ z = .int .i64 n) (fun _ i => len - (intOf i).toNat)
  case atStart => exact ⟨0, t, Nat.zero_le _, rfl, rfl⟩
  case round =>
    obtain ⟨k, n, hk, rfl, rfl⟩ := hrel
    by_cases hlt : k < len
    · have hix := hr.idx cap hlt
      obtain ⟨s, c0⟩ : ∃ s, w.cell? ⟨b, off + k, none⟩ = some (.string s) := ⟨_, hr.cell_ k hlt⟩
      go_wp2_with (go_at_call 6; refine (addLen_any _ _ _).mono ?_; rintro e w' ⟨⟨t6, rfl⟩, rfl⟩)
      all_goals first
        | (go_ret; exact ⟨⟨_, rfl⟩, rfl⟩)
        | (go_round
           case rel => exact ⟨k + 1, _, by omega, by go_num, rfl⟩
           case measure => simp [intOf]; omega)
    · go_wp2
      all_goals (go_ret; exact ⟨⟨_, rfl⟩, rfl⟩)

/-- The bytes of the first n strings together. -/
def totN (S : Nat → ByteArray) (n : Nat) : Nat := ((List.range n).map fun i => (S i).size).sum
theorem totN_succ (S : Nat → ByteArray) (n : Nat) : totN S (n + 1) = totN S n + (S n).size := by simp [totN, List.range_succ]

set_option maxHeartbeats 400000 in
set_option maxRecDepth 20000 in
theorem zzSplits_tells (ak : Option Addr) (lk ck : Nat) (ty : ByteArray) (ao : Option Addr) (len cap b off : Nat) (S : Nat → ByteArray) (k0 : Int) (w : World) (hm : len ≤ 9223372036854775807) (hr : Strs w ao len b off S) :
    Calls Tryd.prog 5 #[.slice ak lk ck, .string ty, .slice ao len cap, .int .i64 k0] w fun e w' => RetZ e (lk + ty.size + len + totN S len ≤ 1048576) ∧ w = w' := by
  go_enter Tryd.func5, Tryd.ntmps5
  go_wp2
  all_goals try (go_ret; exact ⟨⟨_, rfl, fun h => by cases h⟩, rfl⟩)
  go_loop [9, 10] (fun z i => ∃ (k n : Nat), k ≤ len ∧ n ≤ 1048576 ∧ i = .int .i64 k ∧ z = .int .i64 n ∧ Hid (n = lk + ty.size + len + totN S k)) (fun _ i => len - (intOf i).toNat)
  case atStart => exact ⟨0, lk + ty.size + len, Nat.zero_le _, by omega, rfl, by go_num, rfl⟩
  case round =>
    obtain ⟨k, n, hk, hn1, rfl, rfl, HN⟩ := hrel
    by_cases hlt : k < len
    · have hix := hr.idx cap hlt
      obtain ⟨s, hs, c0⟩ : ∃ s, s = S k ∧ w.cell? ⟨b, off + k, none⟩ = some (.string s) := ⟨_, rfl, hr.cell_ k hlt⟩
      have HS : Hid (s = S k) := hs
      clear hs
      go_wp2
      all_goals first
        | (go_ret; exact ⟨⟨_, rfl, fun h => by cases h⟩, rfl⟩)
        | (go_round
           case rel => exact ⟨k + 1, n + s.size, by omega, by omega, by go_num, by go_num, by have := HN.out; have := HS.out; show _ = _; rw [totN_succ, ← HS.out]; omega⟩
           case measure => simp [intOf]; omega)
    · obtain rfl : k = len := by omega
      go_wp2
      all_goals (go_ret; exact ⟨⟨_, rfl, fun _ => by have := HN.out; omega⟩, rfl⟩)

set_option maxHeartbeats 400000 in
set_option maxRecDepth 20000 in
theorem zzApart_tells (ak : Option Addr) (lk ck : Nat) (ty : ByteArray) (ao : Option Addr) (len cap b off : Nat) (S : Nat → ByteArray) (ty' : ByteArray) (ao' : Option Addr) (len' cap' b' off' : Nat) (S' : Nat → ByteArray) (w : World)
    (hm : len ≤ 9223372036854775807) (hr : Strs w ao len b off S) (hm' : len' ≤ 9223372036854775807) (hr' : Strs w ao' len' b' off' S') :
    Calls Tryd.prog 14 #[.slice ak lk ck, .string ty, .slice ao len cap, .string ty', .slice ao' len' cap'] w fun e w' => RetZ e (lk + ty.size + len + totN S len + ty'.size + len' + totN S' len' ≤ 1048576) ∧ w = w' := by
  go_enter Tryd.func14, Tryd.ntmps14
  go_wp2
  all_goals try (go_ret; exact ⟨⟨_, rfl, fun h => by cases h⟩, rfl⟩)
  go_loop [11, 12] (fun z i => ∃ (k n : Nat), k ≤ len ∧ n ≤ 1048576 ∧ i = .int .i64 k ∧ z = .int .i64 n ∧ Hid (n = lk + ty.size + len + totN S k)) (fun _ i => len - (intOf i).toNat)
  case atStart => exact ⟨0, lk + ty.size + len, Nat.zero_le _, by omega, rfl, by go_num, rfl⟩
  case round =>
    obtain ⟨k, n, hk, hn1, rfl, rfl, HN⟩ := hrel
    by_cases hlt : k < len
    · have hix := hr.idx cap hlt
      obtain ⟨s, hs, c0⟩ : ∃ s, s = S k ∧ w.cell? ⟨b, off + k, none⟩ = some (.string s) := ⟨_, rfl, hr.cell_ k hlt⟩
      have HS : Hid (s = S k) := hs
      clear hs
      go_wp2
      all_goals first
        | (go_ret; exact ⟨⟨_, rfl, fun h => by cases h⟩, rfl⟩)
        | (go_round
           case rel => exact ⟨k + 1, n + s.size, by omega, by omega, by go_num, by go_num, by have := HN.out; have := HS.out; show _ = _; rw [totN_succ, ← HS.out]; omega⟩
           case measure => simp [intOf]; omega)
    obtain rfl : k = len := by omega
    go_wp2
    all_goals try (go_ret; exact ⟨⟨_, rfl, fun h => by cases h⟩, rfl⟩)
    go_loop [11, 13] (fun z i => ∃ (j m : Nat), j ≤ len' ∧ m ≤ 1048576 ∧ i = .int .i64 j ∧ z = .int .i64 m ∧ Hid (m = n + ty'.size + len' + totN S' j)) (fun _ i => len' - (intOf i).toNat)
    case atStart => exact ⟨0, n + ty'.size + len', Nat.zero_le _, by omega, rfl, by go_num, rfl⟩
    case round =>
      obtain ⟨j, m, hj, hm1, rfl, rfl, HM⟩ := hrel
      by_cases hlt : j < len'
      · have hix := hr'.idx cap' hlt
        obtain ⟨s, hs, c0⟩ : ∃ s, s = S' j ∧ w.cell? ⟨b', off' + j, none⟩ = some (.string s) := ⟨_, rfl, hr'.cell_ j hlt⟩
        have HS : Hid (s = S' j) := hs
        clear hs
        go_wp2
        all_goals first
          | (go_ret; exact ⟨⟨_, rfl, fun h => by cases h⟩, rfl⟩)
          | (go_round
             case rel => exact ⟨j + 1, m + s.size, by omega, by omega, by go_num, by go_num, by have := HM.out; have := HS.out; show _ = _; rw [totN_succ, ← HS.out]; omega⟩
             case measure => simp [intOf]; omega)
      obtain rfl : j = len' := by omega
      go_wp2
      all_goals (go_ret; exact ⟨⟨_, rfl, fun _ => by have := HN.out; have := HM.out; omega⟩, rfl⟩)

/-- r tells whether the two are alike. -/
def Tells {α : Type} (r : Bool) (n n' : Nat) (K K' : Nat → α) : Prop := r = true ↔ n = n' ∧ ∀ i, i < n → K i = K' i

set_option maxHeartbeats 400000 in
/-- Are two slices of bytes alike? -/
theorem equalBytes_any (ao : Option Addr) (len cap b off : Nat) (K : Nat → UInt8) (ao' : Option Addr) (len' cap' b' off' : Nat) (K' : Nat → UInt8) (w : World) (hm : len ≤ 9223372036854775807) (hr : Bys w ao len b off K) (hr' : Bys w ao' len' b' off' K') :
    Calls Tryd.prog 11 #[.slice ao len cap, .slice ao' len' cap'] w fun e w' => (∃ r : Bool, e = .returned (.bool r) ∧ Tells r len len' K K') ∧ ∃ q, w' = w.drewN q := by
  by_cases hne : len = len'
  · subst hne
    go_enter Tryd.func11, Tryd.ntmps11
    go_wp2
    go_loopw [5] (fun i wr => ∃ (k q : Nat), k ≤ len ∧ i = .int .i64 k ∧ wr = w.drewN q ∧ Hid (∀ i, i < k → K i = K' i)) (fun i _ => len - (intOf i).toNat)
    case atStart => exact ⟨0, 0, Nat.zero_le _, rfl, rfl, fun i h => absurd h (by omega)⟩
    case round =>
      obtain ⟨k, q, hk, rfl, rfl, HE⟩ := hrel
      by_cases hlt : k < len
      · have hix := hr.idx cap hlt
        have hix' := hr'.idx cap' hlt
        have c0 := hr.cell_ k hlt
        have c0' := hr'.cell_ k hlt
        have hlt' : (k : Int) < (len : Int) := by omega
        by_cases he : K k = K' k
        · have HK : Hid (K k = K' k) := he
          rw [← he] at c0'
          clear he
          go_wp2
          go_quiet (fail)
          go_wp2
          go_roundw
          case rel => exact ⟨k + 1, _, by omega, by go_num, rfl, fun i hi => by
            by_cases e : i = k
            · subst e; exact HK.out
            · exact HE.out i (by omega)⟩
          case measure => simp [intOf]; omega
        · have hb : ((K k).toNat : Int) ≠ ((K' k).toNat : Int) := fun h => he (UInt8.toNat_inj.1 (by omega))
          have hb' : (((K k).toNat : Int) != ((K' k).toNat : Int)) = true := by simpa using hb
          clear hb
          go_wp2
          go_quiet (fail)
          go_wp2
          go_ret
          exact ⟨⟨false, rfl, fun h => (by cases h), fun h => absurd (h.2 k hlt) he⟩, _, World.drewN_drewN _ _ _⟩
      · obtain rfl : k = len := by omega
        go_wp2
        go_ret
        exact ⟨⟨true, rfl, fun _ => ⟨rfl, HE.out⟩, fun _ => rfl⟩, _, rfl⟩
  · have hb : ((len : Int) != (len' : Int)) = true := by simp; omega
    go_enter Tryd.func11, Tryd.ntmps11
    go_wp2
    go_ret
    exact ⟨⟨false, rfl, fun h => (by cases h), fun h => absurd h.1 hne⟩, 0, rfl⟩
set_option maxHeartbeats 400000 in
/-- Are two slices of strings alike? -/
theorem equalStrings_any (ao : Option Addr) (len cap b off : Nat) (K : Nat → ByteArray) (ao' : Option Addr) (len' cap' b' off' : Nat) (K' : Nat → ByteArray) (w : World) (hm : len ≤ 9223372036854775807) (hr : Strs w ao len b off K) (hr' : Strs w ao' len' b' off' K') :
    Calls Tryd.prog 13 #[.slice ao len cap, .slice ao' len' cap'] w fun e w' => (∃ r : Bool, e = .returned (.bool r) ∧ Tells r len len' K K') ∧ ∃ q, w' = w.drewN q := by
  by_cases hne : len = len'
  · subst hne
    go_enter Tryd.func13, Tryd.ntmps13
    go_wp2
    go_loopw [5] (fun i wr => ∃ (k q : Nat), k ≤ len ∧ i = .int .i64 k ∧ wr = w.drewN q ∧ Hid (∀ i, i < k → K i = K' i)) (fun i _ => len - (intOf i).toNat)
    case atStart => exact ⟨0, 0, Nat.zero_le _, rfl, rfl, fun i h => absurd h (by omega)⟩
    case round =>
      obtain ⟨k, q, hk, rfl, rfl, HE⟩ := hrel
      by_cases hlt : k < len
      · have hix := hr.idx cap hlt
        have hix' := hr'.idx cap' hlt
        have c0 := hr.cell_ k hlt
        have c0' := hr'.cell_ k hlt
        have hlt' : (k : Int) < (len : Int) := by omega
        by_cases he : K k = K' k
        · have HK : Hid (K k = K' k) := he
          rw [← he] at c0'
          clear he
          go_wp2
          go_quiet (fail)
          go_wp2
          go_roundw
          case rel => exact ⟨k + 1, _, by omega, by go_num, rfl, fun i hi => by
            by_cases e : i = k
            · subst e; exact HK.out
            · exact HE.out i (by omega)⟩
          case measure => simp [intOf]; omega
        · have hb' : ((K k).toList == (K' k).toList) = false := by
            rw [beq_eq_false_iff_ne]
            intro h
            rw [ByteArray.toList_eq, ByteArray.toList_eq] at h
            exact he (bytes_ext h)
          go_wp2
          go_quiet (fail)
          go_wp2
          go_ret
          exact ⟨⟨false, rfl, fun h => (by cases h), fun h => absurd (h.2 k hlt) he⟩, _, World.drewN_drewN _ _ _⟩
      · obtain rfl : k = len := by omega
        go_wp2
        go_ret
        exact ⟨⟨true, rfl, fun _ => ⟨rfl, HE.out⟩, fun _ => rfl⟩, _, rfl⟩
  · have hb : ((len : Int) != (len' : Int)) = true := by simp; omega
    go_enter Tryd.func13, Tryd.ntmps13
    go_wp2
    go_ret
    exact ⟨⟨false, rfl, fun h => (by cases h), fun h => absurd h.1 hne⟩, 0, rfl⟩
end Go.Proofs.Qxb6627736aDoor
