/- FnInQuorumsWholeAnswer: THE ROW. -/
import Derived.Test.Qxb6627671aLaw
import Derived.ProofKit
import Derived.OpenShut
import Derived.ShutString
import Derived.ChangeOld
import Derived.Deep.Slices
namespace Go.Proofs.Qxb6627671a
open Go.RowKit Go.ChangeShapes Go.WideShapes Go.ChangeAt Go.Deep
open Go.ChangeMaps (open_string shut_string)

theorem own : ownKnob Try.prog.godebug = none := by kernel_rfl
theorem laidOut : laidOutB Try.prog = true := by kernel_rfl
theorem Try.cells9 : Try.prog.cellsOf 9 = 1 := by kernel_rfl

/-- A slice of strings that came in. -/
theorem strs_open {H : Type} {enc : TypeId × Value → H} {W : World} {ao : Option Addr} {len cap : Nat} {d : DataW H} {p : List MemPlace}
    (h : DataW.Trod enc Try.prog W 0 (fun _ => true) true 22 (.slice ao len cap) d p) : ∃ b off S, Strs W ao len b off S ∧ len ≤ 9223372036854775807 := by
  obtain ⟨fuel, hf⟩ := h
  rcases open_slice1 Try.underlying22 Try.cells9 hf with ⟨hcs, _⟩ | ⟨a, len', cap', m, n, V, D, Pl, hcs, _, hl, hm, hmm, _, hx⟩
  · simp [Value.cells] at hcs
    obtain ⟨rfl, rfl, rfl⟩ := hcs
    exact ⟨0, 0, fun _ => ByteArray.empty, ⟨fun h => absurd h (by omega), fun h => absurd h (by omega), fun _ h => absurd h (by omega)⟩, by omega⟩
  · simp [Value.cells] at hcs
    obtain ⟨rfl, rfl, rfl⟩ := hcs
    simp only [if_true] at hmm
    subst hmm
    unfold maxLen at hm
    have each : ∀ i, i < len → ∃ s : ByteArray, W.cell? (a.add i) = some (.string s) := by
      intro i hi
      obtain ⟨h1, h2⟩ := hx i (by omega)
      obtain ⟨s, e, _⟩ := DataW.trod_string Try.underlying9 h2
      simp only [List.cons.injEq, and_true] at e
      exact ⟨s, by rw [h1, e]⟩
    obtain ⟨S, hS⟩ := choose_lt each
    obtain ⟨b, off, spot⟩ := a
    by_cases h0 : 0 < len
    · have hc := hS 0 h0
      have hspot : spot = none := by simpa [Addr.add] using World.cell?_spot hc
      subst hspot
      refine ⟨b, off, S, ⟨fun _ => rfl, fun _ => ?_, fun i hi => ?_⟩, by omega⟩
      · simpa [Addr.add] using block_lt_of_cell hc
      · rw [← add_plain]
        exact hS i hi
    · exact ⟨0, 0, S, ⟨fun h => absurd h h0, fun h => absurd h h0, fun _ h => absurd h (by omega)⟩, by omega⟩

theorem i64_top {x : Int} (h : (Lit.int .i64 x).wf = true) : x ≤ 9223372036854775807 := by
  simp [Lit.wf, IntKind.min, IntKind.max, IntKind.signed, IntKind.bits] at h
  omega

set_option maxRecDepth 100000 in
theorem lifted (os : Os) (started : os.Started) (H : Type) (enc : TypeId × Value → H) :
    ReturnsInHanded {} Try.checked os 3 .any (Rows.fnInQuorumsWholeAnswerSpec.pre6 enc Try.prog Try.f3 Rows.fnInQuorumsWholeAnswerRow.domain false) (Rows.fnInQuorumsWholeAnswerSpec.post enc Try.prog Try.f3 false true false false) := by
  refine returnsInHanded_of_change (C := Try.checked) own started (by kernel_rfl) Try.func3
    (ChangeSpec.witness6 (enc := enc) (C := Try.checked) false ⟨#[], #[.string ByteArray.empty, .string ByteArray.empty, .slice none 0 0, .int .i64 0, .int .i64 0, .int .i64 0, .bool false, .int .u64 0, .string ByteArray.empty, .slice none 0 0], []⟩ 8 (by kernel_rfl) (by kernel_rfl) (by kernel_rfl) (by kernel_rfl)) ?_
  intro W base args ds gs before hval0 hW hcnd _
  have hval : ∀ (j : Nat) t v, Try.f3.params[j]? = some t → args[j]? = some v → Value.okWide Try.prog W .any base t v := hval0
  have hW' := hW
  obtain ⟨p, q, hA0, hV, rfl, hfz, hnd⟩ := hW
  have hA : DataW.TrodAll enc Try.prog W 0 (fun _ => true) true Try.f3.params.toList args.toList ds p := hA0
  rw [Try.params3] at hA hval
  obtain ⟨v0, vs0, d0, ds0, p0, q0, hargs, rfl, rfl, h0, r0⟩ := trodAll_cons hA
  obtain ⟨v1, vs1, d1, ds1, p1, q1, rfl, rfl, rfl, h1, r1⟩ := trodAll_cons r0
  obtain ⟨v2, vs2, d2, ds2, p2, q2, rfl, rfl, rfl, h2, r2⟩ := trodAll_cons r1
  obtain ⟨v3, vs3, d3, ds3, p3, q3, rfl, rfl, rfl, h3, r3⟩ := trodAll_cons r2
  obtain ⟨v4, vs4, d4, ds4, p4, q4, rfl, rfl, rfl, h4, r4⟩ := trodAll_cons r3
  obtain ⟨v5, vs5, d5, ds5, p5, q5, rfl, rfl, rfl, h5, r5⟩ := trodAll_cons r4
  obtain ⟨v6, vs6, d6, ds6, p6, q6, rfl, rfl, rfl, h6, r6⟩ := trodAll_cons r5
  obtain ⟨v7, vs7, d7, ds7, p7, q7, rfl, rfl, rfl, h7, r7⟩ := trodAll_cons r6
  obtain ⟨v8, vs8, d8, ds8, p8, q8, rfl, rfl, rfl, h8, r8⟩ := trodAll_cons r7
  obtain ⟨v9, vs9, d9, ds9, p9, q9, rfl, rfl, rfl, h9, r9⟩ := trodAll_cons r8
  obtain ⟨rfl, rfl, rfl⟩ := trodAll_nil r9
  obtain rfl : args = #[v0, v1, v2, v3, v4, v5, v6, v7, v8, v9] := by cases args; simp_all
  obtain ⟨rfl, rfl⟩ := trodVars_none hV
  obtain ⟨s0, rfl, rfl, rfl, w0⟩ := open_string Try.underlying9 (hval 0 9 v0 rfl rfl) h0
  obtain ⟨s1, rfl, rfl, rfl, w1⟩ := open_string Try.underlying9 (hval 1 9 v1 rfl rfl) h1
  obtain ⟨a2, len2, cap2, rfl⟩ := okWide_slice Try.underlying22 (hval 2 22 v2 rfl rfl)
  obtain ⟨x3, rfl, rfl, rfl, w3⟩ := open_int Try.underlying3 (hval 3 3 v3 rfl rfl) h3
  obtain ⟨x4, rfl, rfl, rfl, w4⟩ := open_int Try.underlying3 (hval 4 3 v4 rfl rfl) h4
  obtain ⟨x5, rfl, rfl, rfl, w5⟩ := open_int Try.underlying3 (hval 5 3 v5 rfl rfl) h5
  obtain ⟨x6, rfl, rfl, rfl⟩ := open_bool Try.underlying4 (hval 6 4 v6 rfl rfl) h6
  obtain ⟨x7, rfl, rfl, rfl, w7⟩ := open_int Try.underlying23 (hval 7 23 v7 rfl rfl) h7
  obtain ⟨s8, rfl, rfl, rfl, w8⟩ := open_string Try.underlying9 (hval 8 9 v8 rfl rfl) h8
  obtain ⟨a9, len9, cap9, rfl⟩ := okWide_slice Try.underlying22 (hval 9 22 v9 rfl rfl)
  have lt2 : ∀ x ∈ p2, x.block < W.heap.size := by obtain ⟨m, hm⟩ := h2; exact DataW.trod_lt m _ _ _ hm
  have lt9 : ∀ x ∈ p9, x.block < W.heap.size := by obtain ⟨m, hm⟩ := h9; exact DataW.trod_lt m _ _ _ hm
  obtain ⟨b2, o2, S2, hr2, hm2⟩ := strs_open h2
  obtain ⟨b9, o9, S9, hr9, hm9⟩ := strs_open h9
  clear hA0 hval0
  refine (law_any s0 s1 s8 a2 len2 cap2 b2 o2 S2 a9 len9 cap9 b9 o9 S9 x3 x4 x5 x7 x6 W hm2 hr2 hm9 hr9 (i64_top w5) (i64_top w4)).mono fun e W' ⟨he, bel⟩ => ?_
  subst he
  exact ⟨_, rfl, _, _, _, [], _, [], hW', trodAll_mk1 (shut_bool Try.underlying4 _),
    (trodAll_cons_mk (shut_string Try.underlying9 w0) (trodAll_cons_mk (shut_string Try.underlying9 w1) (trodAll_cons_mk (Below.trod laidOut (by kernel_rfl) (of_decide_eq_true (by kernel_rfl)) h2 bel lt2)
      (trodAll_cons_mk (shut_int Try.underlying3 w3) (trodAll_cons_mk (shut_int Try.underlying3 w4) (trodAll_cons_mk (shut_int Try.underlying3 w5) (trodAll_cons_mk (shut_bool Try.underlying4 _) (trodAll_cons_mk (shut_int Try.underlying23 w7)
        (trodAll_cons_mk (shut_string Try.underlying9 w8) (trodAll_cons_mk (Below.trod laidOut (by kernel_rfl) (of_decide_eq_true (by kernel_rfl)) h9 bel lt9) trodAll_mk0)))))))))), rfl, bel.frame _, fun h => by cases h⟩

/-- THE STATEMENT. -/
theorem fnInQuorumsWholeAnswer_holds : Rows.FnInQuorumsWholeAnswerSaid :=
  OpenClaim.holds_of_wide 3 Try.f3 rfl rfl rfl rfl rfl rfl rfl ⟨rfl, rfl, rfl, rfl, rfl⟩ rfl rfl rfl rfl rfl (by kernel_rfl) Try.func3 (by kernel_rfl)
    (of_decide_eq_true (by kernel_rfl)) (by unfold Func.isWrapper; first | (rw [if_pos (by decide +kernel)]; kernel_rfl) | (rw [if_neg (by decide +kernel)]; exact ⟨rfl, rfl⟩))
    (fun os started H enc _ => lifted os started H enc)
#print axioms fnInQuorumsWholeAnswer_holds
end Go.Proofs.Qxb6627671a
