/- HOW THE ARGUMENTS AND THE LISTED TABLE ARE OPENED. -/
import Derived.Test.Qxb6627736aDoorLawParts
import Derived.ProofKit
import Derived.LaidMore
import Derived.Stop.Joined
import Derived.Deep.Slices
import Derived.Lib.LaidTab
namespace Go.Proofs.Qxb6627736aDoor
open Go.RowKit Go.ChangeShapes Go.WideShapes Go.ChangeAt Go.Deep

theorem own : ownKnob Tryd.prog.godebug = none := by kernel_rfl
theorem laidOut : laidOutB Tryd.prog = true := by kernel_rfl
theorem Tryd.cells9 : Tryd.prog.cellsOf 9 = 1 := by kernel_rfl
theorem Tryd.cells5 : Tryd.prog.cellsOf 5 = 1 := by kernel_rfl

/-- The three tables that the rows list. -/
def laid3 : List (String × DataW Unit) := Rows.fnRuleKeySplitsAtAnyCutAndDecodesRow.laid

/-- The door's own heap meets the condition. -/
theorem door_met (os : Os) (args : Array Value) : laidMetH Tryd.prog laid3 ((World.doorLaid Tryd.prog 24 os).forCall (fun _ _ => 0) ⟨#[], args, []⟩).memory :=
  laidMetH_of_parts3 (fuel := 8) (laidMet_of_run' 8 (by kernel_rfl) (by kernel_rfl)) (by kernel_rfl) (by kernel_rfl)

theorem pow_datum : (Rows.laid_internal_strconv_uint64pow10 : DataW Unit) = Lib.tabData .u64 Lib.pow10Tab := by rfl

/-- What the condition gives: the powers of ten. -/
theorem of_laid {W : World} (h : laidMetH Tryd.prog laid3 W) : PowIs W.heap.size W := by
  rw [MakeChecks.laidMetH_plain _ _ _ (by kernel_rfl)] at h
  obtain ⟨ps, ⟨g0, t0, cs0, f0, p0, q0, _, _, _, _, ⟨g1, t1, cs1, f1, p1, q1, _, _, _, _, ⟨g2, t2, cs2, f2, p2, q2, hg2, ht2, hv2, hd2, _, _⟩, _⟩, _⟩, _, _⟩ := h
  have hg : Tryd.prog.globalNamed Tryd.powName = some 0 := by kernel_rfl
  have ht : (Tryd.prog.globals[0]?).map (·.type) = some 52 := by kernel_rfl
  obtain rfl := Option.some.inj (hg.symm.trans hg2)
  obtain rfl := Option.some.inj (ht.symm.trans ht2)
  refine Lib.tabBelow_of_tabIs ?_
  unfold Lib.TabIs
  rw [pow_datum] at hd2
  have hv3 : W.var? Tryd.prog Tryd.powName = some cs2 := hv2
  rw [hv3, ← Lib.cells_of_tab Tryd.underlying52 Tryd.underlying42 (by kernel_rfl) (by kernel_rfl) hd2]

/-- A slice of strings that came in. -/
theorem strs_open {H : Type} {enc : TypeId × Value → H} {W : World} {ao : Option Addr} {len cap : Nat} {d : DataW H} {p : List MemPlace}
    (h : DataW.Trod enc Tryd.prog W 0 (fun _ => true) true 23 (.slice ao len cap) d p) : ∃ b off vs, vs.length = len ∧ Strs W ao len b off (fun i => List.getD vs i ByteArray.empty) ∧ len ≤ 9223372036854775807 := by
  obtain ⟨fuel, hf⟩ := h
  rcases open_slice1 Tryd.underlying23 Tryd.cells9 hf with ⟨hcs, _⟩ | ⟨a, len', cap', m, n, V, D, Pl, hcs, _, hl, hm, hmm, _, hx⟩
  · simp [Value.cells] at hcs
    obtain ⟨rfl, rfl, rfl⟩ := hcs
    exact ⟨0, 0, [], rfl, ⟨fun h => absurd h (by omega), fun h => absurd h (by omega), fun _ h => absurd h (by omega)⟩, by omega⟩
  · simp [Value.cells] at hcs
    obtain ⟨rfl, rfl, rfl⟩ := hcs
    simp only [if_true] at hmm
    subst hmm
    unfold maxLen at hm
    have each : ∀ i, i < len → ∃ s : ByteArray, W.cell? (a.add i) = some (.string s) := by
      intro i hi
      obtain ⟨h1, h2⟩ := hx i (by omega)
      obtain ⟨s, e, _⟩ := DataW.trod_string Tryd.underlying9 h2
      simp only [List.cons.injEq, and_true] at e
      exact ⟨s, by rw [h1, e]⟩
    obtain ⟨S, hS⟩ := choose_lt each
    have hg : ∀ i, i < len → ((List.range len).map S).getD i ByteArray.empty = S i := fun i hi => by simp [List.getD, hi]
    obtain ⟨b, off, spot⟩ := a
    by_cases h0 : 0 < len
    · have hc := hS 0 h0
      have hspot : spot = none := by simpa [Addr.add] using World.cell?_spot hc
      subst hspot
      refine ⟨b, off, (List.range len).map S, by simp, ⟨fun _ => rfl, fun _ => ?_, fun i hi => ?_⟩, by omega⟩
      · simpa [Addr.add] using block_lt_of_cell hc
      · rw [hg i hi, ← Qxb6627736aDoor.add_plain b off i]
        exact hS i hi
    · exact ⟨0, 0, (List.range len).map S, by simp, ⟨fun h => absurd h h0, fun h => absurd h h0, fun _ h => absurd h (by omega)⟩, by omega⟩

/-- A slice of bytes that came in. -/
theorem bys_open {H : Type} {enc : TypeId × Value → H} {W : World} {ao : Option Addr} {len cap : Nat} {d : DataW H} {p : List MemPlace}
    (h : DataW.Trod enc Tryd.prog W 0 (fun _ => true) true 22 (.slice ao len cap) d p) : ∃ b off ks, ks.length = len ∧ Bys W ao len b off (fun i => List.getD ks i 0) ∧ len ≤ 9223372036854775807 := by
  obtain ⟨fuel, hf⟩ := h
  rcases open_slice1 Tryd.underlying22 Tryd.cells5 hf with ⟨hcs, _⟩ | ⟨a, len', cap', m, n, V, D, Pl, hcs, _, hl, hm, hmm, _, hx⟩
  · simp [Value.cells] at hcs
    obtain ⟨rfl, rfl, rfl⟩ := hcs
    exact ⟨0, 0, [], rfl, ⟨fun h => absurd h (by omega), fun h => absurd h (by omega), fun _ h => absurd h (by omega)⟩, by omega⟩
  · simp [Value.cells] at hcs
    obtain ⟨rfl, rfl, rfl⟩ := hcs
    simp only [if_true] at hmm
    subst hmm
    unfold maxLen at hm
    have each : ∀ i, i < len → ∃ c : UInt8, W.cell? (a.add i) = some (.int .u8 (c.toNat : Int)) := by
      intro i hi
      obtain ⟨h1, h2⟩ := hx i (by omega)
      obtain ⟨n, e, _, hw⟩ := DataW.trod_int Tryd.underlying5 h2
      simp only [List.cons.injEq, and_true] at e
      simp [Lit.wf, IntKind.min, IntKind.max, IntKind.signed, IntKind.bits] at hw
      refine ⟨UInt8.ofNat n.toNat, ?_⟩
      rw [h1, e]
      have hn : ((UInt8.ofNat n.toNat).toNat : Int) = n := by
        simp only [UInt8.toNat_ofNat']
        omega
      rw [hn]
    obtain ⟨S, hS⟩ := choose_lt each
    have hg : ∀ i, i < len → ((List.range len).map S).getD i 0 = S i := fun i hi => by simp [List.getD, hi]
    obtain ⟨b, off, spot⟩ := a
    by_cases h0 : 0 < len
    · have hc := hS 0 h0
      have hspot : spot = none := by simpa [Addr.add] using World.cell?_spot hc
      subst hspot
      refine ⟨b, off, (List.range len).map S, by simp, ⟨fun _ => rfl, fun _ => ?_, fun i hi => ?_⟩, by omega⟩
      · simpa [Addr.add] using block_lt_of_cell hc
      · rw [hg i hi, ← Qxb6627736aDoor.add_plain b off i]
        exact hS i hi
    · exact ⟨0, 0, (List.range len).map S, by simp, ⟨fun h => absurd h h0, fun h => absurd h h0, fun _ h => absurd h (by omega)⟩, by omega⟩
end Go.Proofs.Qxb6627736aDoor
