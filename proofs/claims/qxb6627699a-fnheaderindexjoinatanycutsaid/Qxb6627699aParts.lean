/- FIELDS, AND WHAT IS KNOWN OF A SLICE OF THEM. -/
import Derived.Test.Qxb6627699aRows
import Derived.WalkKit
import Derived.WalkSpells
import Derived.WalkLawsBesides
import Derived.Handy
import Derived.Deep.OwnRows
import Derived.Deep.QuietTactic
import Derived.Deep.RegionWith
import Derived.BigQuiet
import Derived.Lib.SliceRun
namespace Go.Proofs.Qxb6627699a
open Go.RowKit

/-- A field: its name, its type, its width, its decimals. -/
structure Fld where
  nm : ByteArray
  ty : Int
  wd : Int
  dc : Int

/-- Its four cells. -/
def Fld.cell (f : Fld) (j : Nat) : Value := if j = 0 then .string f.nm else if j = 1 then .int .u8 f.ty else if j = 2 then .int .i64 f.wd else .int .i64 f.dc
theorem Fld.cell0 (f : Fld) : f.cell 0 = .string f.nm := rfl
theorem Fld.cell1 (f : Fld) : f.cell 1 = .int .u8 f.ty := rfl
theorem Fld.cell2 (f : Fld) : f.cell 2 = .int .i64 f.wd := rfl
theorem Fld.cell3 (f : Fld) : f.cell 3 = .int .i64 f.dc := rfl

/-- It returned one bool. -/
def RetB (e : Ending) : Prop := ∃ b : Bool, e = .returned (.bool b)
theorem ret_bool {a b : Bool} (h : a = b) : Ending.returned (.bool a) = .returned (.bool b) := by rw [h]

theorem bytes_ext {a b : ByteArray} (h : a.toList = b.toList) : a = b := by
  rw [ByteArray.toList_eq, ByteArray.toList_eq] at h
  obtain ⟨⟨x⟩⟩ := a
  obtain ⟨⟨y⟩⟩ := b
  simp at h
  rw [h]

structure Flds (w : World) (ao : Option Addr) (len b off : Nat) (f : Nat → Fld) : Prop where
  at_ : 0 < len → ao = some ⟨b, off, none⟩
  lt_ : 0 < len → b < w.heap.size
  cell_ : ∀ i j, i < len → j < 4 → w.cell? ⟨b, off + i * 4 + j, none⟩ = some ((f i).cell j)

theorem Flds.below {w w' : World} {ao : Option Addr} {len b off : Nat} {f : Nat → Fld} (h : Flds w ao len b off f) (hb : Below w.heap.size w w') : Flds w' ao len b off f :=
  ⟨h.at_, fun hl => Nat.lt_of_lt_of_le (h.lt_ hl) hb.size, fun i j hi hj => (hb.cell (p := ⟨b, _, none⟩) (h.lt_ (by omega))).trans (h.cell_ i j hi hj)⟩
/-- A part from the front. -/
theorem Flds.front {w : World} {ao : Option Addr} {len b off : Nat} {f : Nat → Fld} (h : Flds w ao len b off f) (m : Nat) (hm : m ≤ len) : Flds w ao m b off f :=
  ⟨fun h0 => h.at_ (by omega), fun h0 => h.lt_ (by omega), fun i j hi hj => h.cell_ i j (by omega) hj⟩

theorem Flds.cells {w : World} {ao : Option Addr} {len b off : Nat} {f : Nat → Fld} (h : Flds w ao len b off f) {i : Nat} (hi : i < len) :
    w.cell? ⟨b, off + i * 4, none⟩ = some (.string (f i).nm) ∧ w.cell? ⟨b, off + i * 4 + 1, none⟩ = some (.int .u8 (f i).ty) ∧ w.cell? ⟨b, off + i * 4 + 2, none⟩ = some (.int .i64 (f i).wd) ∧ w.cell? ⟨b, off + i * 4 + 3, none⟩ = some (.int .i64 (f i).dc) :=
  ⟨h.cell_ i 0 hi (by omega), h.cell_ i 1 hi (by omega), h.cell_ i 2 hi (by omega), h.cell_ i 3 hi (by omega)⟩

theorem Flds.idx {w : World} {ao : Option Addr} {len b off : Nat} {f : Nat → Fld} (h : Flds w ao len b off f) (cap : Nat) {i : Nat} (hi : i < len) (wx : World) :
    (Instr.indexAt 22 (.slice ao len cap) (.int .i64 (i : Int))).run Try.prog wx = .ok (.pointer (some ⟨b, off + i * 4, none⟩)) wx := by
  obtain rfl := h.at_ (by omega)
  have hlt : (i : Int) < len := by omega
  simp [go_sem, hlt, Try.underlying22, Addr.add]
theorem Flds.idx26 {w : World} {ao : Option Addr} {len b off : Nat} {f : Nat → Fld} (h : Flds w ao len b off f) (cap : Nat) {i : Nat} (hi : i < len) (wx : World) :
    (Instr.indexAt 26 (.slice ao len cap) (.int .i64 (i : Int))).run Try.prog wx = .ok (.pointer (some ⟨b, off + i * 4, none⟩)) wx := by
  obtain rfl := h.at_ (by omega)
  have hlt : (i : Int) < len := by omega
  simp [go_sem, hlt, Try.underlying26, Addr.add]

/-- r is the first place whose name is x; or -1, where none is. -/
def IsIdx (f : Nat → Fld) (n : Nat) (x : ByteArray) (r : Int) : Prop := (∃ k : Nat, r = k ∧ k < n ∧ (f k).nm = x ∧ ∀ j, j < k → (f j).nm ≠ x) ∨ (r = -1 ∧ ∀ j, j < n → (f j).nm ≠ x)
/-- .. and there is one such number. -/
theorem IsIdx.one {f : Nat → Fld} {n : Nat} {x : ByteArray} {r r' : Int} (h : IsIdx f n x r) (h' : IsIdx f n x r') : r = r' := by
  rcases h with ⟨k, rfl, hk, hx, hj⟩ | ⟨rfl, hj⟩ <;> rcases h' with ⟨k', rfl, hk', hx', hj'⟩ | ⟨rfl, hj'⟩
  · rcases Nat.lt_trichotomy k k' with h | h | h
    · exact absurd hx (hj' k h)
    · rw [h]
    · exact absurd hx' (hj k' h)
  · exact absurd hx (hj' k hk)
  · exact absurd hx' (hj k' hk')
  · rfl

set_option maxHeartbeats 400000 in
theorem index_any (h0 h1 h2 h3 h4 h5 h6 h8 : Value) (ao : Option Addr) (len cap b off : Nat) (f : Nat → Fld) (x : ByteArray) (w : World) (hm : len ≤ 9223372036854775807) (hr : Flds w ao len b off f) :
    Calls Try.prog 7 #[.agg #[h0, h1, h2, h3, h4, h5, h6, .slice ao len cap, h8], .string x] w fun e w' => (∃ r : Int, e = .returned (.int .i64 r) ∧ IsIdx f len x r) ∧ Below w.heap.size w w' := by
  have hbl := (Below.refl w.heap.size w).alloc (Nat.le_refl _) (.cells #[h0, h1, h2, h3, h4, h5, h6, .slice ao len cap, h8] 32)
  go_enter Try.func7, Try.ntmps7
  go_wp2
  go_loopw [10] (fun i wr => ∃ (k : Nat), k ≤ len ∧ i = .int .i64 k ∧ Hid (∀ j, j < k → (f j).nm ≠ x) ∧ Below w.heap.size w wr) (fun i _ => len - (intOf i).toNat)
  case atStart => exact ⟨0, Nat.zero_le _, rfl, fun j h => absurd h (by omega), hbl⟩
  case round =>
    obtain ⟨k, hk, rfl, hno, hbel⟩ := hrel
    by_cases hlt : k < len
    · have hix := hr.idx26 cap hlt
      obtain ⟨c0, c1, c2, c3⟩ := (hr.below hbel).cells hlt
      have hsz := hbel.size
      cases hf : ((f k).nm.toList == x.toList) with
      | true =>
        go_wp2
        go_ret
        exact ⟨⟨_, rfl, .inl ⟨k, rfl, hlt, bytes_ext (by simpa using hf), hno⟩⟩, by go_grown⟩
      | false =>
        go_wp2
        go_roundw
        case rel => exact ⟨k + 1, by omega, by go_num, fun j hj => by
          by_cases e : j = k
          · subst e; intro h; rw [h] at hf; simp at hf
          · exact hno j (by omega), by go_grown⟩
        case measure => simp [intOf]; omega
    · obtain rfl : k = len := by omega
      go_wp2
      go_ret
      exact ⟨⟨_, rfl, .inr ⟨rfl, hno⟩⟩, hbel⟩
end Go.Proofs.Qxb6627699a
