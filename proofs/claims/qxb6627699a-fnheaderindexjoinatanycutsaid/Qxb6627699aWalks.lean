/- THE WALKS OF THE BYTE BOUNDS AND OF toFields. -/
import Derived.Test.Qxb6627699aParts
namespace Go.Proofs.Qxb6627699a
open Go.RowKit

set_option maxHeartbeats 400000 in
set_option maxRecDepth 20000 in
theorem zzFirst_any (ao : Option Addr) (len cap b off : Nat) (f : Nat → Fld) (k0 : Int) (w : World) (hm : len ≤ 9223372036854775807) (hr : Flds w ao len b off f) :
    Calls Try.prog 8 #[.slice ao len cap, .int .i64 k0] w fun e w' => RetB e ∧ w = w' := by
  go_enter Try.func8, Try.ntmps8
  go_wp2
  all_goals try (go_ret; exact ⟨⟨_, rfl⟩, rfl⟩)
  go_loop [5, 6] (fun z i => ∃ (k : Nat) (n : Int), k ≤ len ∧ 0 ≤ n ∧ n ≤ 1048576 ∧ i = .int .i64 k ∧ z = .int .i64 n) (fun _ i => len - (intOf i).toNat)
  case atStart => exact ⟨0, len, Nat.zero_le _, by omega, by omega, rfl, rfl⟩
  case round =>
    obtain ⟨k, n, hk, hn0, hn1, rfl, rfl⟩ := hrel
    by_cases hlt : k < len
    · have hix := hr.idx cap hlt
      obtain ⟨s, c0⟩ : ∃ s, w.cell? ⟨b, off + k * 4, none⟩ = some (.string s) := ⟨_, (hr.cells hlt).1⟩
      go_wp2
      all_goals first
        | (go_ret; exact ⟨⟨_, rfl⟩, rfl⟩)
        | (go_round
           case rel => refine ⟨k + 1, _, by omega, ?_, ?_, by go_num, rfl⟩ <;> omega
           case measure => simp [intOf]; omega)
    · go_wp2
      all_goals (go_ret; exact ⟨⟨_, rfl⟩, rfl⟩)

set_option maxHeartbeats 400000 in
set_option maxRecDepth 20000 in
theorem zzJoin_any (ao : Option Addr) (len cap b off : Nat) (f : Nat → Fld) (ao' : Option Addr) (len' cap' b' off' : Nat) (f' : Nat → Fld) (s2 : ByteArray) (w : World) (hm : len ≤ 9223372036854775807) (hr : Flds w ao len b off f) (hm' : len' ≤ 9223372036854775807) (hr' : Flds w ao' len' b' off' f') :
    Calls Try.prog 5 #[.slice ao len cap, .slice ao' len' cap', .string s2] w fun e w' => RetB e ∧ w = w' := by
  go_enter Try.func5, Try.ntmps5
  go_wp2
  all_goals try (go_ret; exact ⟨⟨_, rfl⟩, rfl⟩)
  go_loop [7, 8] (fun z i => ∃ (k : Nat) (n : Int), k ≤ len ∧ 0 ≤ n ∧ n ≤ 1048576 ∧ i = .int .i64 k ∧ z = .int .i64 n) (fun _ i => len - (intOf i).toNat)
  case atStart => exact ⟨0, len, Nat.zero_le _, by omega, by omega, rfl, rfl⟩
  case round =>
    obtain ⟨k, n, hk, hn0, hn1, rfl, rfl⟩ := hrel
    by_cases hlt : k < len
    · have hix := hr.idx cap hlt
      obtain ⟨s, c0⟩ : ∃ s, w.cell? ⟨b, off + k * 4, none⟩ = some (.string s) := ⟨_, (hr.cells hlt).1⟩
      go_wp2
      all_goals first
        | (go_ret; exact ⟨⟨_, rfl⟩, rfl⟩)
        | (go_round
           case rel => refine ⟨k + 1, _, by omega, ?_, ?_, by go_num, rfl⟩ <;> omega
           case measure => simp [intOf]; omega)
    · go_wp2
      all_goals try (go_ret; exact ⟨⟨_, rfl⟩, rfl⟩)
      go_loop [7, 9] (fun z i => ∃ (k : Nat) (n : Int), k ≤ len' ∧ 0 ≤ n ∧ n ≤ 1048576 ∧ i = .int .i64 k ∧ z = .int .i64 n) (fun _ i => len' - (intOf i).toNat)
      case atStart => exact ⟨0, _, Nat.zero_le _, by omega, by assumption, rfl, rfl⟩
      case round =>
        obtain ⟨k, n, hk, hn0, hn1, rfl, rfl⟩ := hrel
        by_cases hlt : k < len'
        · have hix := hr'.idx cap' hlt
          obtain ⟨s, c0⟩ : ∃ s, w.cell? ⟨b', off' + k * 4, none⟩ = some (.string s) := ⟨_, (hr'.cells hlt).1⟩
          go_wp2
          all_goals first
            | (go_ret; exact ⟨⟨_, rfl⟩, rfl⟩)
            | (go_round
               case rel => refine ⟨k + 1, _, by omega, ?_, ?_, by go_num, rfl⟩ <;> omega
               case measure => simp [intOf]; omega)
        · go_wp2
          all_goals (go_ret; exact ⟨⟨_, rfl⟩, rfl⟩)

theorem Try.info30 : (Try.prog.info? 30).map (fun i => (i.zero, i.size, i.bytes)) = some (some (.agg #[.string ByteArray.empty, .int .u8 0, .int .i64 0, .int .i64 0]), 4, 40) := by kernel_rfl

/-- make([]Field, n): the world is written out. -/
theorem make_fields (n : Nat) (hn : n ≤ 65536) (w : World) : (Instr.makeSlice 26 (.int .i64 (n : Int)) (.int .i64 (n : Int))).run Try.prog w =
    .ok (.slice (some ⟨w.heap.size, 0, none⟩) n n) (w.alloc (.cells (madeCells #[.string ByteArray.empty, .int .u8 0, .int .i64 0, .int .i64 0] (n * 4)) 30)) := by
  obtain ⟨i0, hi, hz0, hz1, hz2⟩ := info_parts Try.info30
  have hr := run_make (P := Try.prog) w 26 30 i0 _ Try.underlying26 hi hz0 .i64 .i64 n n (by omega) (Int.le_refl _) (by rw [hz2]; omega) (by omega)
  rw [hz1] at hr
  simpa [Value.cells] using hr

/-- A row of fields that is being filled: the first k are laid. -/
def Fill (w : World) (g len k : Nat) (f : Nat → Fld) : Prop := ∃ Z : Nat → Value, w.rowIs g 30 (len * 4) Z ∧ ∀ i j, i < k → j < 4 → Z (i * 4 + j) = (f i).cell j
theorem Fill.made (w : World) (len : Nat) (f : Nat → Fld) (z : Array Value) : Fill (w.alloc (.cells (madeCells z (len * 4)) 30)) w.heap.size len 0 f := by
  refine ⟨fun i => (madeCells z (len * 4)).getD i (.bool false), ?_, fun i j h => absurd h (by omega)⟩
  have hs : (madeCells z (len * 4)).size = len * 4 := size_madeCells _ _
  have := World.rowIs_alloc w (madeCells z (len * 4)) 30 (fun i => (madeCells z (len * 4)).getD i (.bool false)) (fun i hi => by simp [Array.getD, hi])
  rwa [hs] at this
theorem Fill.free {w : World} {g len k : Nat} {f : Nat → Fld} (h : Fill w g len k f) (hk : k < len) :
    ∃ z0 z1 z2 z3, w.cell? ⟨g, k * 4, none⟩ = some z0 ∧ w.cell? ⟨g, k * 4 + 1, none⟩ = some z1 ∧ w.cell? ⟨g, k * 4 + 2, none⟩ = some z2 ∧ w.cell? ⟨g, k * 4 + 3, none⟩ = some z3 ∧
      w.frozen? ⟨g, k * 4, none⟩ = false ∧ w.frozen? ⟨g, k * 4 + 1, none⟩ = false ∧ w.frozen? ⟨g, k * 4 + 2, none⟩ = false ∧ w.frozen? ⟨g, k * 4 + 3, none⟩ = false := by
  obtain ⟨Z, hZ, _⟩ := h
  exact ⟨_, _, _, _, hZ.cell (by omega), hZ.cell (by omega), hZ.cell (by omega), hZ.cell (by omega), hZ.frozen _, hZ.frozen _, hZ.frozen _, hZ.frozen _⟩
theorem Fill.next {w : World} {g len k : Nat} {f : Nat → Fld} (h : Fill w g len k f) :
    Fill ((((w.setCell ⟨g, k * 4, none⟩ (.string (f k).nm)).setCell ⟨g, k * 4 + 1, none⟩ (.int .u8 (f k).ty)).setCell ⟨g, k * 4 + 2, none⟩ (.int .i64 (f k).wd)).setCell ⟨g, k * 4 + 3, none⟩ (.int .i64 (f k).dc)) g len (k + 1) f := by
  obtain ⟨Z, hZ, hf⟩ := h
  refine ⟨_, (((hZ.set (k * 4) _).set (k * 4 + 1) _).set (k * 4 + 2) _).set (k * 4 + 3) _, fun i j hi hj => ?_⟩
  by_cases e : i = k
  · subst e
    match j, hj with
    | 0, _ => simp [Fld.cell]
    | 1, _ => simp [Fld.cell]
    | 2, _ => simp [Fld.cell]
    | 3, _ => simp [Fld.cell]
  · rw [if_neg (by omega), if_neg (by omega), if_neg (by omega), if_neg (by omega)]
    exact hf i j (by omega) hj
theorem Fill.drew {w : World} {g len k : Nat} {f : Nat → Fld} (h : Fill w g len k f) : Fill w.drew g len k f := h
theorem Fill.flds {w : World} {g len : Nat} {f : Nat → Fld} (h : Fill w g len len f) : Flds w (some ⟨g, 0, none⟩) len g 0 f := by
  obtain ⟨Z, hZ, hf⟩ := h
  refine ⟨fun _ => rfl, fun _ => hZ.lt, fun i j hi hj => ?_⟩
  rw [Nat.zero_add, hZ.cell (by omega), hf i j hi hj]

set_option maxHeartbeats 1000000 in
theorem toFields_any (ao : Option Addr) (len cap b off : Nat) (f : Nat → Fld) (w : World) (hm : len ≤ 65536) (hr : Flds w ao len b off f) :
    Calls Try.prog 6 #[.slice ao len cap] w fun e w' => ∃ (av : Option Addr) (cv g : Nat), e = .returned (.slice av len cv) ∧ len ≤ cv ∧ Flds w' av len g 0 f ∧ Below w.heap.size w w' := by
  have hq := fun wx => Lib.run_eql_slice_nil (P := Try.prog) wx 22 25 ao len cap 0 0 Try.underlying22
  cases ao with
  | none =>
    obtain rfl : len = 0 := by
      by_cases h : 0 < len
      · exact absurd (hr.at_ h) (by simp)
      · omega
    go_enter Try.func6, Try.ntmps6
    go_wp2
    go_ret
    exact ⟨none, 0, 0, rfl, Nat.le_refl _, ⟨fun h => absurd h (by omega), fun h => absurd h (by omega), fun _ _ h => absurd h (by omega)⟩, Below.refl _ _⟩
  | some a0 =>
    have hmk := make_fields len hm
    go_enter Try.func6, Try.ntmps6
    go_wp2
    have hfil := Fill.made w len f #[.string ByteArray.empty, .int .u8 0, .int .i64 0, .int .i64 0]
    have hbl := (Below.refl w.heap.size w).alloc (Nat.le_refl _) (.cells (madeCells #[.string ByteArray.empty, .int .u8 0, .int .i64 0, .int .i64 0] (len * 4)) 30)
    obtain ⟨g, hg⟩ : ∃ g, g = w.heap.size := ⟨_, rfl⟩
    rw [← hg] at hfil ⊢
    have HG : Hid (g = w.heap.size) := hg
    clear hmk hq hg
    go_loopw [4] (fun i wr => ∃ (k : Nat), k ≤ len ∧ i = .int .i64 k ∧ Fill wr g len k f ∧ Below w.heap.size w wr) (fun i _ => len - (intOf i).toNat)
    case atStart => exact ⟨0, Nat.zero_le _, rfl, hfil, hbl⟩
    case round =>
      clear hfil hbl
      obtain ⟨k, hk, rfl, hfil, hbel⟩ := hrel
      by_cases hlt : k < len
      · have hix := hr.idx cap hlt
        obtain ⟨c0, c1, c2, c3⟩ := (hr.below hbel).cells hlt
        obtain ⟨z0, z1, z2, z3, d0, d1, d2, d3, f0, f1, f2, f3⟩ := hfil.free hlt
        have hlt' : (k : Int) < (len : Int) := by omega
        go_wp2
        go_region
        go_wp2
        go_roundw
        case rel => exact ⟨k + 1, by omega, by go_num, (hfil.next).drew, ((((hbel.setCell (Nat.le_of_eq HG.out.symm) _).setCell (Nat.le_of_eq HG.out.symm) _).setCell (Nat.le_of_eq HG.out.symm) _).setCell (Nat.le_of_eq HG.out.symm) _).drew⟩
        case measure => simp [intOf]; omega
      · obtain rfl : k = len := by omega
        go_wp2
        go_ret
        exact ⟨_, _, g, rfl, Nat.le_refl _, hfil.flds, hbel⟩
end Go.Proofs.Qxb6627699a
