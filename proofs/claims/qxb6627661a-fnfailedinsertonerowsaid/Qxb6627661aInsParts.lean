/- FnFailedInsertOneRow: what the walk wants, outside the walk. -/
import Derived.Test.Qxb6627661aSplit
namespace Go.Proofs.Qxb6627661a
open Go.RowKit

/-- The list with the row R put in at place k. -/
def ins (k : Nat) (R : Nat → ByteArray) (S : Nat → Nat → ByteArray) (i : Nat) : Nat → ByteArray := if i < k then S i else if i = k then R else S (i - 1)
/-- One row of four strings. -/
def row4 (s0 s1 s2 s3 : ByteArray) (j : Nat) : ByteArray := if j = 0 then s0 else if j = 1 then s1 else if j = 2 then s2 else s3

theorem ins_lt (k : Nat) (R : Nat → ByteArray) (S : Nat → Nat → ByteArray) (i : Nat) (h : i < k) : ins k R S i = S i := by simp [ins, h]
theorem ins_at (k : Nat) (R : Nat → ByteArray) (S : Nat → Nat → ByteArray) : ins k R S k = R := by simp [ins]
theorem ins_gt (k : Nat) (R : Nat → ByteArray) (S : Nat → Nat → ByteArray) (i : Nat) (h : k ≤ i) : ins k R S (i + 1) = S i := by
  simp only [ins]
  rw [if_neg (by omega), if_neg (by omega)]
  rfl

theorem anyFail_congr (S T : Nat → Nat → ByteArray) (n : Nat) (h : ∀ i, i < n → S i = T i) : anyFail S n = anyFail T n := by
  induction n with
  | zero => rfl
  | succ n ih => rw [anyFail_succ, anyFail_succ, ih (fun i hi => h i (by omega)), h n (by omega)]

/-- THE PLAIN LAW: some row of the longer list fails just where one of the shorter does, or the new one. -/
theorem anyFail_ins (k n : Nat) (R : Nat → ByteArray) (S : Nat → Nat → ByteArray) (h : k ≤ n) : anyFail (ins k R S) (n + 1) = (anyFail S n || isFail (R 3)) := by
  rw [anyFail_split (ins k R S) k (n + 1) (by omega), anyFail_split S k n h, anyFail_congr (ins k R S) S k (fun i hi => ins_lt k R S i hi), show n + 1 - k = (n - k) + 1 by omega,
    anyFail_split (fun i => ins k R S (k + i)) 1 (n - k + 1) (by omega), anyFail_one]
  have e : (fun i => ins k R S (k + (1 + i))) = fun i => S (k + i) := by
    funext i
    rw [show k + (1 + i) = (k + i) + 1 by omega, ins_gt k R S (k + i) (by omega)]
  simp only [Nat.add_zero, ins_at]
  rw [e, show n - k + 1 - 1 = n - k by omega, isFail]
  cases anyFail S k <;> cases anyFail (fun i => S (k + i)) (n - k) <;> simp

/-- What the loop keeps: old memory as it was; the two slices that are being built. -/
structure Two (w0 wr : World) (g1 g2 len : Nat) (S T : Nat → Nat → ByteArray) (nb nw : Nat) : Prop where
  bel : Below w0.heap.size w0 wr
  ownB : wr.ownsRow g1 32 4 (.slice (some ⟨g1, 0, none⟩) nb len) nb (cellsOf4 S nb)
  ownW : wr.ownsRow g2 32 4 (.slice (some ⟨g2, 0, none⟩) nw (len + 1)) nw (cellsOf4 T nw)

theorem Two.below {w0 wr w' : World} {g1 g2 len : Nat} {S T : Nat → Nat → ByteArray} {nb nw : Nat} (h : Two w0 wr g1 g2 len S T nb nw) (hb : Below wr.heap.size wr w') : Two w0 w' g1 g2 len S T nb nw :=
  ⟨h.bel.trans (hb.mono h.bel.size), own_below h.ownB hb, own_below h.ownW hb⟩

theorem Two.pushB {w0 wr w' : World} {o : Obj} {g1 g2 len : Nat} {S T : Nat → Nat → ByteArray} {nb nw : Nat} (h : Two w0 wr g1 g2 len S T nb nw) (h1 : w0.heap.size ≤ g1) (h2 : g1 < g2)
    (hown : w'.ownsRow g1 32 4 (.slice (some ⟨g1, 0, none⟩) (nb + 1) len) (nb + 1) (cellsOf4 S nb ++ [.string (S nb 0), .string (S nb 1), .string (S nb 2), .string (S nb 3)])) (hg : (wr.alloc o).grownBy w' (some g1)) : Two w0 w' g1 g2 len S T (nb + 1) nw := by
  refine ⟨(h.bel.alloc h.bel.size o).grown hg (by have := h.bel.size; simp; omega) (by intro k hk; simp at hk; omega), by rw [cellsOf4_succ]; exact hown, (h.ownW.alloc o).kept hg (.inr ?_)⟩
  simp [Value.ownBlock]
  omega

theorem Two.pushW {w0 wr w' : World} {o : Obj} {g1 g2 len : Nat} {S T : Nat → Nat → ByteArray} {nb nw : Nat} {s0 s1 s2 s3 : ByteArray} (h : Two w0 wr g1 g2 len S T nb nw) (h1 : w0.heap.size ≤ g1) (h2 : g1 < g2)
    (hown : w'.ownsRow g2 32 4 (.slice (some ⟨g2, 0, none⟩) (nw + 1) (len + 1)) (nw + 1) (cellsOf4 T nw ++ [.string s0, .string s1, .string s2, .string s3])) (hg : (wr.alloc o).grownBy w' (some g2))
    (e0 : T nw 0 = s0) (e1 : T nw 1 = s1) (e2 : T nw 2 = s2) (e3 : T nw 3 = s3) : Two w0 w' g1 g2 len S T nb (nw + 1) := by
  subst e0 e1 e2 e3
  refine ⟨(h.bel.alloc h.bel.size o).grown hg (by have := h.bel.size; simp; omega) (by intro k hk; simp at hk; omega), (h.ownB.alloc o).kept hg (.inr ?_), by rw [cellsOf4_succ]; exact hown⟩
  simp [Value.ownBlock]
  omega

/-- The cells of the boxed row. -/
theorem box4 {w wr : World} {s0 s1 s2 s3 : ByteArray} (h : Below (w.alloc (.cells #[.string s0, .string s1, .string s2, .string s3] 24)).heap.size (w.alloc (.cells #[.string s0, .string s1, .string s2, .string s3] 24)) wr) :
    wr.cell? ⟨w.heap.size, 0, none⟩ = some (.string s0) ∧ wr.cell? ⟨w.heap.size, 1, none⟩ = some (.string s1) ∧ wr.cell? ⟨w.heap.size, 2, none⟩ = some (.string s2) ∧ wr.cell? ⟨w.heap.size, 3, none⟩ = some (.string s3) := by
  have f := fun o => h.cell (p := ⟨w.heap.size, o, none⟩) (by simp)
  rw [f 0, f 1, f 2, f 3]
  simp [go_sem]
end Go.Proofs.Qxb6627661a
