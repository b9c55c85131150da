/- THE WALK OF zzSortedCopy. -/
import Derived.Test.Qxb6627671aWalks
import Derived.Deep.OwnRows
import Derived.Deep.QuietTactic
import Derived.BigQuiet
namespace Go.Proofs.Qxb6627671a
open Go.RowKit

theorem Try.info9 : (Try.prog.info? 9).map (fun i => (i.zero, i.size, i.bytes)) = some (some (.string ByteArray.empty), 1, 16) := by kernel_rfl

theorem sorted_mono {Y : Nat → ByteArray} {n m : Nat} (h : SortedS Y n) (hm : m ≤ n) : SortedS Y m := fun a b hab hb => h a b hab (by omega)

/-- A row of strings. -/
def rowS (w : World) (g n : Nat) (Y : Nat → ByteArray) : Prop := w.rowIs g 9 n (fun t => .string (Y t))
theorem rowS.cell {w : World} {g n : Nat} {Y : Nat → ByteArray} (h : rowS w g n Y) {i : Nat} (hi : i < n) : w.cell? ⟨g, i, none⟩ = some (.string (Y i)) := World.rowIs.cell h hi
theorem rowS.frozen {w : World} {g n : Nat} {Y : Nat → ByteArray} (h : rowS w g n Y) (i : Nat) : w.frozen? ⟨g, i, none⟩ = false := World.rowIs.frozen h i
theorem rowS.strs {w : World} {g n : Nat} {Y : Nat → ByteArray} (h : rowS w g n Y) : Strs w (some ⟨g, 0, none⟩) n g 0 Y :=
  ⟨fun _ => rfl, fun _ => World.rowIs.lt h, fun i hi => by simpa using h.cell hi⟩
theorem rowS.put {w : World} {g n : Nat} {Y Z : Nat → ByteArray} (h : rowS w g n Y) (k : Nat) (s : ByteArray) (hZ : ∀ t, t < n → Z t = if t = k then s else Y t) : rowS (w.setCell ⟨g, k, none⟩ (.string s)) g n Z :=
  World.rowIs.congr (World.rowIs.set h k (.string s)) (fun i hi => by rw [hZ i hi]; by_cases e : i = k <;> simp [e])
theorem rowS.drewN {w : World} {g n : Nat} {Y : Nat → ByteArray} (h : rowS w g n Y) (q : Nat) : rowS (w.drewN q) g n Y := h
theorem rowS.swap {w : World} {g n : Nat} {Y : Nat → ByteArray} (h : rowS w g n Y) (j : Nat) : rowS ((w.setCell ⟨g, j - 1, none⟩ (.string (Y j))).setCell ⟨g, j, none⟩ (.string (Y (j - 1)))) g n (swapS Y j) :=
  (h.put (Z := fun t => if t = j - 1 then Y j else Y t) (j - 1) (Y j) (fun _ _ => rfl)).put j (Y (j - 1)) (fun t _ => by simp only [swapS])

theorem grow_if (X : Nat → ByteArray) (k t : Nat) : (if t < k + 1 then X t else ByteArray.empty) = if t = k then X k else if t < k then X t else ByteArray.empty := by
  by_cases e : t = k
  · subst e; simp
  · by_cases h : t < k
    · rw [if_pos (by omega), if_neg e, if_pos h]
    · rw [if_neg (by omega), if_neg e, if_neg h]

set_option maxHeartbeats 1000000 in
theorem sortedCopy_any (ao : Option Addr) (len cap b off : Nat) (X : Nat → ByteArray) (w : World) (hm : len ≤ 4096) (hr : Strs w ao len b off X) :
    Calls Try.prog 8 #[.slice ao len cap] w fun e w' => ∃ (Y : Nat → ByteArray), e = .returned (.slice (some ⟨w.heap.size, 0, none⟩) len len) ∧ rowS w' w.heap.size len Y ∧ SortedS Y len ∧ (∀ x, hasB Y len x = hasB X len x) ∧ Below w.heap.size w w' := by
  have hmk := run_make_row' (P := Try.prog) 22 9 (.string ByteArray.empty) 16 Try.underlying22 Try.info9 rfl .i64 .i64 len (by omega) (by omega)
  go_enter Try.func8, Try.ntmps8
  go_wp2
  clear hmk
  obtain ⟨g, hg⟩ : ∃ g, g = w.heap.size := ⟨_, rfl⟩
  have hr0 : rowS (w.alloc (.cells (madeCells #[.string ByteArray.empty] len) 9)) g len (fun t => if t < 0 then X t else ByteArray.empty) := by
    rw [hg]
    exact World.rowIs.congr (World.rowIs_made w (.string ByteArray.empty) len 9) (fun i _ => by simp)
  have hb0 : Below g w (w.alloc (.cells (madeCells #[.string ByteArray.empty] len) 9)) := by rw [hg]; exact (Below.refl _ _).alloc (Nat.le_refl _) _
  rw [← hg]
  go_loopw [4] (fun i wr => ∃ (k : Nat), k ≤ len ∧ i = .int .i64 k ∧ rowS wr g len (fun t => if t < k then X t else ByteArray.empty) ∧ Below g w wr) (fun i _ => len - (intOf i).toNat)
  case atStart => exact ⟨0, Nat.zero_le _, rfl, hr0, hb0⟩
  case round =>
    clear hr0 hb0
    obtain ⟨k, hk, rfl, hrow, hbel⟩ := hrel
    by_cases hlt : k < len
    · have hbel' : Below w.heap.size w wr := by rw [← hg]; exact hbel
      have hix := hr.idx cap hlt
      have c0 := (hr.below hbel').cell_ k hlt
      have c1 := hrow.cell hlt
      have f1 := hrow.frozen k
      have HG : Hid (g = w.heap.size) := hg
      clear hg hbel'
      go_wp2
      go_roundw
      case rel => exact ⟨k + 1, by omega, by go_num, hrow.put k (X k) (fun t _ => grow_if X k t), hbel.setCell (Nat.le_refl _) _⟩
      case measure => simp [intOf]; omega
    · obtain rfl : k = len := by omega
      have hrowX : rowS wr g k X := World.rowIs.congr hrow (fun i hi => by simp [hi])
      have HG : Hid (g = w.heap.size) := hg
      clear hg hrow hr
      go_wp2
      go_loopw [5] (fun i wr => ∃ (n : Nat) (Y : Nat → ByteArray), 1 ≤ n ∧ n ≤ k + 1 ∧ i = .int .i64 n ∧ rowS wr g k Y ∧ SortedS Y n ∧ Hid (∀ x, hasB Y k x = hasB X k x) ∧ Below g w wr) (fun i _ => k + 1 - (intOf i).toNat)
      case atStart => exact ⟨1, X, Nat.le_refl _, by omega, rfl, hrowX, fun a b h1 h2 => absurd h1 (by omega), fun _ => rfl, hbel⟩
      case round =>
        clear hrowX hbel
        obtain ⟨n, Y, hn1, hn2, rfl, hrow, hsort, hsame, hbel⟩ := hrel
        by_cases hlt2 : n < k
        · have HS : Hid (SortedS Y n) := hsort
          clear hsort
          go_wp2
          go_loopw [6] (fun i wr => ∃ (j : Nat) (Y : Nat → ByteArray), j ≤ n ∧ i = .int .i64 j ∧ rowS wr g k Y ∧ Hid (Nearly Y n j) ∧ Hid (∀ x, hasB Y k x = hasB X k x) ∧ Below g w wr) (fun i _ => (intOf i).toNat)
          case atStart => exact ⟨n, Y, Nat.le_refl _, rfl, hrow, nearly_start Y n HS.out, hsame, hbel⟩
          case round =>
            clear hrow hbel hsame HS Y
            obtain ⟨j, Y, hjn, rfl, hrow, HN, hsame, hbel⟩ := hrel
            by_cases hj0 : 0 < j
            · have hix := hrow.strs.idx k (show j < k by omega)
              have hix1 := hrow.strs.idx k (show j - 1 < k by omega)
              rw [show ((j - 1 : Nat) : Int) = (j : Int) - 1 by omega] at hix1
              simp only [Nat.zero_add] at hix hix1
              have c0 := hrow.cell (show j < k by omega)
              have c1 := hrow.cell (show j - 1 < k by omega)
              have f0 := hrow.frozen j
              have f1 := hrow.frozen (j - 1)
              have hjp : (0 : Int) < (j : Int) := by omega
              have hjk : (j : Int) < (k : Int) := by omega
              cases hf : Op.bytesLess (Y j).toList (Y (j - 1)).toList with
              | true =>
                go_wp2
                go_quiet (fail)
                go_wp2
                go_roundw
                case rel => exact ⟨j - 1, swapS Y j, by omega, by go_num, (hrow.drewN nq).swap j, nearly_swap Y n j hj0 hjn HN.out hf, fun x => (has_swap Y k j hj0 (by omega) x).trans (hsame.out x), ((below_drewN hbel nq).setCell (Nat.le_refl _) _).setCell (Nat.le_refl _) _⟩
                case measure => simp [intOf]; omega
              | false =>
                go_wp2
                go_quiet (fail)
                go_wp2
                go_roundw
                case rel => exact ⟨n + 1, Y, by omega, by omega, by go_num, hrow.drewN nq, nearly_end Y n j hjn HN.out (.inr hf), hsame, below_drewN hbel nq⟩
                case measure => simp [intOf]; omega
            · obtain rfl : j = 0 := by omega
              have hd : decide ((0 : Int) < ((0 : Nat) : Int)) = false := by simp
              go_wp2
              go_quiet (fail)
              go_wp2
              go_roundw
              case rel => exact ⟨n + 1, Y, by omega, by omega, by go_num, hrow.drewN nq, nearly_end Y n 0 (by omega) HN.out (.inl rfl), hsame, below_drewN hbel nq⟩
              case measure => simp [intOf]; omega
        · go_wp2
          go_ret
          exact ⟨Y, by rw [HG.out]; rfl, by rw [← HG.out]; exact hrow, sorted_mono hsort (by omega), hsame, by rw [← HG.out]; exact hbel⟩
end Go.Proofs.Qxb6627671a
