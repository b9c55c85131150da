/- THE WALKS OF zzCloneBytes, zzCloneStrings, zzHasComma. -/
import Derived.Test.Qxb6627736aDoorWalks
namespace Go.Proofs.Qxb6627736aDoor
open Go.RowKit

theorem Tryd.info5 : (Tryd.prog.info? 5).map (fun i => (i.zero, i.size, i.bytes)) = some (some (.int .u8 0), 1, 1) := by kernel_rfl
theorem Tryd.info9 : (Tryd.prog.info? 9).map (fun i => (i.zero, i.size, i.bytes)) = some (some (.string ByteArray.empty), 1, 16) := by kernel_rfl

def strCells (l : List ByteArray) : List Value := l.map Value.string
theorem strCells_length (l : List ByteArray) : (strCells l).length = l.length := by simp [strCells]

theorem add_plain (b off j : Nat) : (⟨b, off, none⟩ : Addr).add j = ⟨b, off + j, none⟩ := by
  unfold Addr.add
  split <;> simp_all
/-- The cells cs lie at a. -/
def Lie (w : World) (a : Addr) (cs : List Value) : Prop := ∀ j v, cs[j]? = some v → w.cell? (a.add j) = some v
/-- A row that is known whole is owned. -/
theorem own_of_heap {w : World} {B g e n : Nat} {cs : List Value} (hB : B ≤ g) (hn : cs.length = n) (hm : n ≤ maxLen) (h : w.heap[g]? = some (.cells cs.toArray e (0, 0))) : w.ownsRow B e 1 (.slice (some ⟨g, 0, none⟩) n n) n cs :=
  ⟨by omega, .inr ⟨g, n, cs.toArray, rfl, hB, h, Nat.le_refl _, hm, by simp; omega, by rw [Nat.mul_one, ← hn]; exact List.take_length⟩⟩
theorem splice_all {α : Type} (L cs : List α) (h : cs.length = L.length) : splice L 0 cs = cs := by simp [splice, h]

set_option maxHeartbeats 400000 in
theorem cloneBytes_any (ao : Option Addr) (len cap b off : Nat) (l : List UInt8) (w : World) (hl : l.length = len) (hm : len ≤ 1048576) (hr : Bys w ao len b off (fun i => l.getD i 0)) :
    Calls Tryd.prog 8 #[.slice ao len cap] w fun e w' => ∃ (av : Option Addr) (cv : Nat), e = .returned (.slice av len cv) ∧ w'.ownsRow w.heap.size 5 1 (.slice av len cv) len (Lib.byteCells l) ∧ Below w.heap.size w w' := by
  have hq := fun wx => Lib.run_eql_slice_nil (P := Tryd.prog) wx 22 5 ao len cap 0 0 Tryd.underlying22
  cases ao with
  | none =>
    obtain rfl : len = 0 := by
      by_cases h : 0 < len
      · exact absurd (hr.at_ h) (by simp)
      · omega
    obtain rfl : l = [] := List.eq_nil_of_length_eq_zero hl
    go_enter Tryd.func8, Tryd.ntmps8
    go_wp2
    go_ret
    exact ⟨none, 0, rfl, World.ownsRow_nil _ _ _ _, Below.refl _ _⟩
  | some a0 =>
    have hmk := run_make_row' (P := Tryd.prog) 22 5 (.int .u8 0) 1 Tryd.underlying22 Tryd.info5 rfl .i64 .i64 len (by omega) (by omega)
    have hcs : (Lib.byteCells l).length = len := by rw [Lib.byteCells_length, hl]
    have hbl := (Below.refl w.heap.size w).alloc (Nat.le_refl _) (.cells (madeCells #[.int .u8 0] len) 5)
    have hcur : ((madeCells #[Value.int .u8 0] len).toList).length = len := by simp [size_madeCells]
    have hheap : (w.alloc (.cells (madeCells #[.int .u8 0] len) 5)).heap[w.heap.size]? = some (.cells ((madeCells #[.int .u8 0] len).toList).toArray 5 (0, 0)) := by simpa using heap_alloc_new w (.cells (madeCells #[.int .u8 0] len) 5)
    have hpos : 0 < len → Lie (w.alloc (.cells (madeCells #[.int .u8 0] len) 5)) a0 (Lib.byteCells l) := by
      intro h0 j v hj
      obtain rfl : a0 = ⟨b, off, none⟩ := Option.some.inj (hr.at_ (by omega))
      have hjl : j < len := by
        rcases Nat.lt_or_ge j len with h | h
        · exact h
        · rw [List.getElem?_eq_none (by omega)] at hj; cases hj
      rw [add_plain, hbl.cell (p := ⟨b, off + j, none⟩) (hr.lt_ (by omega)), hr.cell_ j hjl, ← hj]
      simp [Lib.byteCells, List.getD, List.getElem?_eq_getElem (show j < l.length by omega)]
    have HPOS : Hid _ := hpos
    have HHEAP : Hid _ := hheap
    clear hpos hheap
    have h1 : ∀ v ∈ Lib.byteCells l, v.oneCell' = true := by
      intro v hv
      simp only [Lib.byteCells, List.mem_map] at hv
      obtain ⟨c, _, rfl⟩ := hv
      rfl
    have H1 : Hid _ := h1
    clear h1
    go_enter Tryd.func8, Tryd.ntmps8
    go_wp2_with (refine wpList_copy_splice rfl (.tmp 9) (.tmp 10) 22 22 rfl 5 Tryd.underlying22 (by kernel_rfl) _ _ len len len cap rfl rfl w.heap.size 0 _ 5 HHEAP.out (Lib.byteCells l) (by rw [hcs]; exact (Nat.min_self _).symm) (fun h0 => ⟨rfl, a0, rfl, HPOS.out (by rw [hcs] at h0; exact h0)⟩) (by rw [hcs, hcur]; omega) H1.out w.heap.size w hbl (Nat.le_refl _) ?_; intro w2 hh2 hb2)
    go_ret
    rw [splice_all _ _ (by rw [hcs, hcur])] at hh2
    exact ⟨some ⟨w.heap.size, 0, none⟩, len, rfl, own_of_heap (Nat.le_refl _) hcs (by unfold maxLen; omega) hh2.out, hb2⟩

set_option maxHeartbeats 400000 in
theorem cloneStrings_any (ao : Option Addr) (len cap b off : Nat) (l : List ByteArray) (w : World) (hl : l.length = len) (hm : len ≤ 1048576) (hr : Strs w ao len b off (fun i => l.getD i ByteArray.empty)) :
    Calls Tryd.prog 9 #[.slice ao len cap] w fun e w' => ∃ (av : Option Addr) (cv : Nat), e = .returned (.slice av len cv) ∧ w'.ownsRow w.heap.size 9 1 (.slice av len cv) len (strCells l) ∧ Below w.heap.size w w' := by
  have hq := fun wx => Lib.run_eql_slice_nil (P := Tryd.prog) wx 23 9 ao len cap 0 0 Tryd.underlying23
  cases ao with
  | none =>
    obtain rfl : len = 0 := by
      by_cases h : 0 < len
      · exact absurd (hr.at_ h) (by simp)
      · omega
    obtain rfl : l = [] := List.eq_nil_of_length_eq_zero hl
    go_enter Tryd.func9, Tryd.ntmps9
    go_wp2
    go_ret
    exact ⟨none, 0, rfl, World.ownsRow_nil _ _ _ _, Below.refl _ _⟩
  | some a0 =>
    have hmk := run_make_row' (P := Tryd.prog) 23 9 (.string ByteArray.empty) 16 Tryd.underlying23 Tryd.info9 rfl .i64 .i64 len (by omega) (by omega)
    have hcs : (strCells l).length = len := by rw [strCells_length, hl]
    have hbl := (Below.refl w.heap.size w).alloc (Nat.le_refl _) (.cells (madeCells #[.string ByteArray.empty] len) 9)
    have hcur : ((madeCells #[Value.string ByteArray.empty] len).toList).length = len := by simp [size_madeCells]
    have hheap : (w.alloc (.cells (madeCells #[.string ByteArray.empty] len) 9)).heap[w.heap.size]? = some (.cells ((madeCells #[.string ByteArray.empty] len).toList).toArray 9 (0, 0)) := by simpa using heap_alloc_new w (.cells (madeCells #[.string ByteArray.empty] len) 9)
    have hpos : 0 < len → Lie (w.alloc (.cells (madeCells #[.string ByteArray.empty] len) 9)) a0 (strCells l) := by
      intro h0 j v hj
      obtain rfl : a0 = ⟨b, off, none⟩ := Option.some.inj (hr.at_ (by omega))
      have hjl : j < len := by
        rcases Nat.lt_or_ge j len with h | h
        · exact h
        · rw [List.getElem?_eq_none (by omega)] at hj; cases hj
      rw [add_plain, hbl.cell (p := ⟨b, off + j, none⟩) (hr.lt_ (by omega)), hr.cell_ j hjl, ← hj]
      simp [strCells, List.getD, List.getElem?_eq_getElem (show j < l.length by omega)]
    have HPOS : Hid _ := hpos
    have HHEAP : Hid _ := hheap
    clear hpos hheap
    have h1 : ∀ v ∈ strCells l, v.oneCell' = true := by
      intro v hv
      simp only [strCells, List.mem_map] at hv
      obtain ⟨c, _, rfl⟩ := hv
      rfl
    have H1 : Hid _ := h1
    clear h1
    go_enter Tryd.func9, Tryd.ntmps9
    go_wp2_with (refine wpList_copy_splice rfl (.tmp 9) (.tmp 10) 23 23 rfl 9 Tryd.underlying23 (by kernel_rfl) _ _ len len len cap rfl rfl w.heap.size 0 _ 9 HHEAP.out (strCells l) (by rw [hcs]; exact (Nat.min_self _).symm) (fun h0 => ⟨rfl, a0, rfl, HPOS.out (by rw [hcs] at h0; exact h0)⟩) (by rw [hcs, hcur]; omega) H1.out w.heap.size w hbl (Nat.le_refl _) ?_; intro w2 hh2 hb2)
    go_ret
    rw [splice_all _ _ (by rw [hcs, hcur])] at hh2
    exact ⟨some ⟨w.heap.size, 0, none⟩, len, rfl, own_of_heap (Nat.le_refl _) hcs (by unfold maxLen; omega) hh2.out, hb2⟩

/-- It returned a bool: true, or false and P. -/
def RetN (e : Ending) (P : Prop) : Prop := ∃ b : Bool, e = .returned (.bool b) ∧ (b = false → P)
def NoComma (l : List UInt8) : Prop := ∀ c ∈ l, c ≠ 44
theorem noComma_snoc {l : List UInt8} {c : UInt8} (h : NoComma l) (hc : c ≠ 44) : NoComma (l ++ [c]) := by
  intro x hx
  simp only [List.mem_append, List.mem_singleton] at hx
  rcases hx with hx | hx
  · exact h x hx
  · rw [hx]; exact hc
theorem take_snoc (s : ByteArray) (k : Nat) (h : k < s.size) : s.data.toList.take (k + 1) = s.data.toList.take k ++ [s[k]] := by
  rw [List.take_succ_eq_append_getElem (by simpa using h)]; rfl
set_option maxHeartbeats 400000 in
theorem hasComma_any (s : ByteArray) (w : World) (hs : s.size ≤ 9223372036854775807) :
    Calls Tryd.prog 15 #[.string s] w fun e w' => RetN e (NoComma s.data.toList) ∧ w = w' := by
  go_enter Tryd.func15, Tryd.ntmps15
  go_wp2
  go_loop [3] (fun i => ∃ (k : Nat), k ≤ s.size ∧ i = .int .i64 k ∧ NoComma (s.data.toList.take k)) (fun i => s.size - (intOf i).toNat)
  case atStart => exact ⟨0, Nat.zero_le _, rfl, fun c h => by simp at h⟩
  case round =>
    obtain ⟨k, hk, rfl, HC⟩ := hrel
    by_cases hlt : k < s.size
    · go_wp2
      · go_ret
        exact ⟨⟨true, rfl, fun h => by cases h⟩, rfl⟩
      · have hne : ((s[k].toNat : Int) == 44) = false := by assumption
        go_round
        case rel => exact ⟨k + 1, by omega, by go_num, by
          rw [take_snoc s k hlt]
          refine noComma_snoc HC ?_
          intro e
          rw [e] at hne
          simp at hne⟩
        case measure => simp [intOf]; omega
    · obtain rfl : k = s.size := by omega
      go_wp2
      go_ret
      refine ⟨⟨false, rfl, fun _ => ?_⟩, rfl⟩
      rwa [List.take_of_length_le (by simp)] at HC
end Go.Proofs.Qxb6627736aDoor
