import Derived.Test.Qxb6627661aWalks
namespace Go.Proofs.Qxb6627661a
open Go.RowKit

theorem Try.cells24 : Try.prog.cellsOf 24 = 4 := by kernel_rfl
theorem Try.size24 (w : World) : (sizeOf 24).run Try.prog w = .ok 4 w := by kernel_rfl

/-- What is known of a slice of rows (four strings each) that is read: from its length on nothing. -/
structure Rows4 (w : World) (ao : Option Addr) (len b off : Nat) (S : Nat → Nat → ByteArray) : Prop where
  at_ : 0 < len → ao = some ⟨b, off, none⟩
  lt_ : 0 < len → b < w.heap.size
  cell_ : ∀ i j, i < len → j < 4 → w.cell? ⟨b, off + i * 4 + j, none⟩ = some (.string (S i j))

theorem Rows4.below {w w' : World} {ao : Option Addr} {len b off : Nat} {S : Nat → Nat → ByteArray} (h : Rows4 w ao len b off S) (hb : Below w.heap.size w w') : Rows4 w' ao len b off S :=
  ⟨h.at_, fun hl => Nat.lt_of_lt_of_le (h.lt_ hl) hb.size, fun i j hi hj => (hb.cell (p := ⟨b, _, none⟩) (h.lt_ (by omega))).trans (h.cell_ i j hi hj)⟩

theorem Rows4.cells {w : World} {ao : Option Addr} {len b off : Nat} {S : Nat → Nat → ByteArray} (h : Rows4 w ao len b off S) {i : Nat} (hi : i < len) :
    w.cell? ⟨b, off + i * 4, none⟩ = some (.string (S i 0)) ∧ w.cell? ⟨b, off + i * 4 + 1, none⟩ = some (.string (S i 1)) ∧ w.cell? ⟨b, off + i * 4 + 2, none⟩ = some (.string (S i 2)) ∧ w.cell? ⟨b, off + i * 4 + 3, none⟩ = some (.string (S i 3)) :=
  ⟨h.cell_ i 0 hi (by omega), h.cell_ i 1 hi (by omega), h.cell_ i 2 hi (by omega), h.cell_ i 3 hi (by omega)⟩

theorem Rows4.anyStrings {w : World} {ao : Option Addr} {len b off : Nat} {S : Nat → Nat → ByteArray} (h : Rows4 w ao len b off S) {i : Nat} (hi : i < len) : ∃ s0 s1 s2 s3 : ByteArray,
    w.cell? ⟨b, off + i * 4, none⟩ = some (.string s0) ∧ w.cell? ⟨b, off + i * 4 + 1, none⟩ = some (.string s1) ∧ w.cell? ⟨b, off + i * 4 + 2, none⟩ = some (.string s2) ∧ w.cell? ⟨b, off + i * 4 + 3, none⟩ = some (.string s3) :=
  ⟨_, _, _, _, h.cells hi⟩
/-- It returned one bool. -/
def RetB (e : Ending) : Prop := ∃ b : Bool, e = .returned (.bool b)

theorem Rows4.idx {w : World} {ao : Option Addr} {len b off : Nat} {S : Nat → Nat → ByteArray} (h : Rows4 w ao len b off S) (cap : Nat) {i : Nat} (hi : i < len) (wx : World) :
    (Instr.indexAt 22 (.slice ao len cap) (.int .i64 (i : Int))).run Try.prog wx = .ok (.pointer (some ⟨b, off + i * 4, none⟩)) wx := by
  obtain rfl := h.at_ (by omega)
  have hlt : (i : Int) < len := by omega
  simp [go_sem, hlt, Try.underlying22, Addr.add]

set_option maxHeartbeats 400000 in
theorem failRowsFit_any (ao : Option Addr) (len cap b off : Nat) (S : Nat → Nat → ByteArray) (t : Int) (w : World) (hm : len ≤ 9223372036854775807) (hr : Rows4 w ao len b off S) :
    Calls Try.prog 7 #[.slice ao len cap, .int .i64 t] w fun e w' => RetB e ∧ Below w.heap.size w w' := by
  go_enter Try.func7, Try.ntmps7
  go_wp2
  go_loopw [1, 5] (fun t i wr => ∃ (k : Nat) (t' : Int), k ≤ len ∧ i = .int .i64 k ∧ t = .int .i64 t' ∧ Below w.heap.size w wr) (fun _ i _ => len - (intOf i).toNat)
  case atStart => exact ⟨0, t, Nat.zero_le _, rfl, rfl, Below.refl _ _⟩
  case round =>
    obtain ⟨k, t', hk, rfl, rfl, hbel⟩ := hrel
    by_cases hlt : k < len
    · have hr' := hr.below hbel
      have hix := hr'.idx cap hlt
      obtain ⟨c0, c1, c2, c3⟩ := hr'.cells hlt
      clear hr'
      go_wp2_with (go_at_call 6; refine (failRowAdd_any _ _ _ _ _ _).mono ?_; rintro e w' ⟨t', b', rfl, hb'⟩)
      · go_ret
        exact ⟨⟨_, rfl⟩, hbel.trans (hb'.mono hbel.size)⟩
      · go_roundw
        case rel => exact ⟨k + 1, _, by omega, by go_num, rfl, hbel.trans (hb'.mono hbel.size)⟩
        case measure => simp [intOf]; omega
    · go_wp2
      go_ret
      exact ⟨⟨_, rfl⟩, hbel⟩

set_option maxRecDepth 20000 in
/-- The byte bound laid by program: whatever it answers. -/
theorem zzSplit_any (ao : Option Addr) (len cap b off : Nat) (S : Nat → Nat → ByteArray) (k0 : Int) (w : World) (hm : len ≤ 9223372036854775807) (hr : Rows4 w ao len b off S) :
    Calls Try.prog 10 #[.slice ao len cap, .int .i64 k0] w fun e w' => RetB e ∧ w = w' := by
  go_enter Try.func10, Try.ntmps10
  go_wp2
  · go_ret; exact ⟨⟨_, rfl⟩, rfl⟩
  go_loop [5, 6] (fun z i => ∃ (k : Nat) (n : Int), k ≤ len ∧ 0 ≤ n ∧ n ≤ 1048576 ∧ i = .int .i64 k ∧ z = .int .i64 n) (fun _ i => len - (intOf i).toNat)
  case atStart => exact ⟨0, len, Nat.zero_le _, by omega, by omega, rfl, rfl⟩
  case round =>
    obtain ⟨k, n, hk, hn0, hn1, rfl, rfl⟩ := hrel
    by_cases hlt : k < len
    · have hix := hr.idx cap hlt
      obtain ⟨s0, s1, s2, s3, c0, c1, c2, c3⟩ := hr.anyStrings hlt
      go_wp2
      all_goals first
        | (go_ret; exact ⟨⟨_, rfl⟩, rfl⟩)
        | (go_round
           case rel => refine ⟨k + 1, _, by omega, ?_, ?_, by go_num, rfl⟩ <;> omega
           case measure => simp [intOf]; omega)
    · go_wp2
      go_ret
      exact ⟨⟨_, rfl⟩, rfl⟩

set_option maxRecDepth 20000 in
/-- The byte bound of the other law: whatever it answers. -/
theorem zzInsert_any (ao : Option Addr) (len cap b off : Nat) (S : Nat → Nat → ByteArray) (k0 : Int) (s0 s1 s2 s3 : ByteArray) (w : World) (hm : len ≤ 9223372036854775807) (hr : Rows4 w ao len b off S) :
    Calls Try.prog 5 #[.slice ao len cap, .int .i64 k0, .agg #[.string s0, .string s1, .string s2, .string s3]] w fun e w' => RetB e ∧ Below w.heap.size w w' := by
  have hr1 := hr.below ((Below.refl w.heap.size w).alloc (Nat.le_refl _) (.cells #[.string s0, .string s1, .string s2, .string s3] 24))
  have hbl := (Below.refl w.heap.size w).alloc (Nat.le_refl _) (.cells #[.string s0, .string s1, .string s2, .string s3] 24)
  go_enter Try.func5, Try.ntmps5
  go_wp2
  · go_ret; exact ⟨⟨_, rfl⟩, hbl⟩
  go_loop [7, 8] (fun z i => ∃ (k : Nat) (n : Int), k ≤ len ∧ 0 ≤ n ∧ n ≤ 1048576 ∧ i = .int .i64 k ∧ z = .int .i64 n) (fun _ i => len - (intOf i).toNat)
  case atStart => exact ⟨0, len, Nat.zero_le _, by omega, by omega, rfl, rfl⟩
  case round =>
    obtain ⟨k, n, hk, hn0, hn1, rfl, rfl⟩ := hrel
    by_cases hlt : k < len
    · have hix := hr1.idx cap hlt
      obtain ⟨t0, t1, t2, t3, c0, c1, c2, c3⟩ := hr1.anyStrings hlt
      go_wp2
      all_goals first
        | (go_ret; exact ⟨⟨_, rfl⟩, hbl⟩)
        | (go_round
           case rel => refine ⟨k + 1, _, by omega, ?_, ?_, by go_num, rfl⟩ <;> omega
           case measure => simp [intOf]; omega)
    · go_wp2
      all_goals (go_ret; exact ⟨⟨_, rfl⟩, hbl⟩)
end Go.Proofs.Qxb6627661a
