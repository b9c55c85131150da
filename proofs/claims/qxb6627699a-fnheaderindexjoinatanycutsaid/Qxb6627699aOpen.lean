/- HOW A SLICE OF FIELDS THAT CAME IN IS OPENED. -/
import Derived.Test.Qxb6627699aParts
import Derived.ProofKit
import Derived.Deep.Slices
namespace Go.Proofs.Qxb6627699a
open Go.RowKit Go.ChangeShapes Go.WideShapes Go.ChangeAt Go.Deep

theorem own : ownKnob Try.prog.godebug = none := by kernel_rfl
theorem laidOut : laidOutB Try.prog = true := by kernel_rfl
theorem Try.cells9 : Try.prog.cellsOf 9 = 1 := by kernel_rfl
theorem Try.cells5 : Try.prog.cellsOf 5 = 1 := by kernel_rfl
theorem Try.cells3 : Try.prog.cellsOf 3 = 1 := by kernel_rfl
theorem Try.cells25 : Try.prog.cellsOf 25 = 4 := by kernel_rfl

/-- One element. -/
theorem fld_cells {H : Type} {enc : TypeId × Value → H} {W : World} {n : Nat} {cs : List Value} {x : DataW H × List MemPlace} (h : DataW.trod enc Try.prog W 0 (fun _ => true) true n 25 cs = some x) :
    ∃ f : Fld, ∀ j, j < 4 → cs[j]? = some (f.cell j) := by
  obtain ⟨xs, k, _, _, hl, hxl, hf⟩ := DataW.trod_struct Try.underlying25 h
  rw [Try.cells25] at hl
  match cs, hl, xs, hxl with
  | [v0, v1, v2, v3], _, [y0, y1, y2, y3], _ =>
    have g0 := hf 0 _ rfl
    have g1 := hf 1 _ rfl
    have g2 := hf 2 _ rfl
    have g3 := hf 3 _ rfl
    simp [Try.cells9, Try.cells5, Try.cells3] at g0 g1 g2 g3
    obtain ⟨s0, e0, _⟩ := DataW.trod_string Try.underlying9 g0
    obtain ⟨s1, e1, _⟩ := DataW.trod_int Try.underlying5 g1
    obtain ⟨s2, e2, _⟩ := DataW.trod_int Try.underlying3 g2
    obtain ⟨s3, e3, _⟩ := DataW.trod_int Try.underlying3 g3
    simp at e0 e1 e2 e3
    subst e0 e1 e2 e3
    refine ⟨⟨s0, s1, s2, s3⟩, fun j hj => ?_⟩
    match j, hj with
    | 0, _ => rfl
    | 1, _ => rfl
    | 2, _ => rfl
    | 3, _ => rfl

/-- The whole slice. -/
theorem flds_open {H : Type} {enc : TypeId × Value → H} {W : World} {ao : Option Addr} {len cap : Nat} {d : DataW H} {p : List MemPlace}
    (h : DataW.Trod enc Try.prog W 0 (fun _ => true) true 22 (.slice ao len cap) d p) : ∃ b off f, Flds W ao len b off f ∧ len ≤ 9223372036854775807 := by
  obtain ⟨fuel, hf⟩ := h
  rcases open_slice Try.underlying22 hf with ⟨hcs, _⟩ | ⟨a, len', cap', m, n, D, Pl, hcs, _, hl, hm, hmm, _, hx⟩
  · simp [Value.cells] at hcs
    obtain ⟨rfl, rfl, rfl⟩ := hcs
    exact ⟨0, 0, fun _ => ⟨ByteArray.empty, 0, 0, 0⟩, ⟨fun h => absurd h (by omega), fun h => absurd h (by omega), fun _ _ h => absurd h (by omega)⟩, by omega⟩
  · simp [Value.cells] at hcs
    obtain ⟨rfl, rfl, rfl⟩ := hcs
    simp only [if_true] at hmm
    subst hmm
    rw [Try.cells25] at hx
    unfold maxLen at hm
    have each : ∀ i, i < len → ∃ f : Fld, ∀ j, j < 4 → W.cell? (a.add (i * 4 + j)) = some (f.cell j) := by
      intro i hi
      obtain ⟨cs, h1, h2⟩ := hx i (by omega)
      obtain ⟨f, hf⟩ := fld_cells h2
      obtain ⟨_, _, hcell⟩ := World.cells?_some h1
      refine ⟨f, fun j hj => ?_⟩
      rw [← add_add, hcell j hj, hf j hj]
    have inh : Inhabited Fld := ⟨⟨ByteArray.empty, 0, 0, 0⟩⟩
    obtain ⟨S, hS⟩ := choose_lt each
    obtain ⟨b, off, spot⟩ := a
    by_cases h0 : 0 < len
    · have hc := hS 0 h0 0 (by omega)
      have hspot : spot = none := by simpa [Addr.add] using World.cell?_spot hc
      subst hspot
      refine ⟨b, off, S, ⟨fun _ => rfl, fun _ => ?_, fun i j hi hj => ?_⟩, by omega⟩
      · simpa [Addr.add] using block_lt_of_cell hc
      · rw [Nat.add_assoc, ← add_plain]
        exact hS i hi j hj
    · exact ⟨0, 0, S, ⟨fun h => absurd h h0, fun h => absurd h h0, fun _ _ h => absurd h (by omega)⟩, by omega⟩
end Go.Proofs.Qxb6627699a
