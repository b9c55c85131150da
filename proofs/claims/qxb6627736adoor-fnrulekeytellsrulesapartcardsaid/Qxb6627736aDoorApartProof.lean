/- FnRuleKeyTellsRulesApart: THE ROW AND THE TIED CARD. -/
import Derived.Test.Qxb6627736aDoorApart
import Derived.Test.Qxb6627736aDoorOpen
import Derived.Test.Qxb6627736aDoorTie
import Derived.Test.Qxb6627736aDoorCards
import Derived.OpenShut
import Derived.ShutString
import Derived.ChangeOld
import Derived.SevenTiedAt
namespace Go.Proofs.Qxb6627736aDoor
open Go.RowKit Go.ChangeShapes Go.WideShapes Go.ChangeAt Go.Deep
open Go.ChangeMaps (open_string shut_string)

set_option maxRecDepth 100000 in
theorem apart_lifted (os : Os) (started : os.Started) (H : Type) (enc : TypeId × Value → H) :
    ReturnsInHanded {} Tryd.checked os 4 .any (fun w args => (Rows.fnRuleKeyTellsRulesApartSpec.pre enc Tryd.prog Tryd.f4 [] false w args ∧ laidMetH Tryd.prog laid3 w) ∧ sizedMet enc Tryd.prog Tryd.f4 (OpenSpec.ofChange Rows.fnRuleKeyTellsRulesApartSpec) false w args)
      (Rows.fnRuleKeyTellsRulesApartSpec.post enc Tryd.prog Tryd.f4 false true false false) := by
  refine returnsInHanded_of_change_and (C := Tryd.checked) (X := fun w _ => laidMetH Tryd.prog laid3 w) (fun _ _ _ hh h => h.of_heap hh) own started (by kernel_rfl) Tryd.func4
    (ChangeSpec.witness_shaped (enc := enc) (C := Tryd.checked) (os := os) (X := fun w _ => laidMetH Tryd.prog laid3 w) false (World.doorLaid Tryd.prog 24 os) #[.slice none 0 0, .string ByteArray.empty, .slice none 0 0, .string ByteArray.empty, .slice none 0 0] 8 rfl (World.shaped_of_RefB (by kernel_rfl) (by kernel_rfl)) (by kernel_rfl) (by kernel_rfl) (by kernel_rfl) (door_met os _)) ?_
  intro W base args ds gs before hval0 hW _ _ hL _
  have hval : ∀ (j : Nat) t v, Tryd.f4.params[j]? = some t → args[j]? = some v → Value.okWide Tryd.prog W .any base t v := hval0
  have hW' := hW
  obtain ⟨p, q, hA0, hV, rfl, hfz, hnd⟩ := hW
  have hA : DataW.TrodAll enc Tryd.prog W 0 (fun _ => true) true Tryd.f4.params.toList args.toList ds p := hA0
  rw [Tryd.params4] at hA hval
  obtain ⟨v0, vs0, d0, ds0, p0, q0, hargs, rfl, rfl, h0, r0⟩ := trodAll_cons hA
  obtain ⟨v1, vs1, d1, ds1, p1, q1, rfl, rfl, rfl, h1, r1⟩ := trodAll_cons r0
  obtain ⟨v2, vs2, d2, ds2, p2, q2, rfl, rfl, rfl, h2, r2⟩ := trodAll_cons r1
  obtain ⟨v3, vs3, d3, ds3, p3, q3, rfl, rfl, rfl, h3, r3⟩ := trodAll_cons r2
  obtain ⟨v4, vs4, d4, ds4, p4, q4, rfl, rfl, rfl, h4, r4⟩ := trodAll_cons r3
  obtain ⟨rfl, rfl, rfl⟩ := trodAll_nil r4
  obtain rfl : args = #[v0, v1, v2, v3, v4] := by cases args; simp_all
  obtain ⟨rfl, rfl⟩ := trodVars_none hV
  obtain ⟨a0, len0, cap0, rfl⟩ := okWide_slice Tryd.underlying22 (hval 0 22 v0 rfl rfl)
  obtain ⟨ty, rfl, rfl, rfl, w1⟩ := open_string Tryd.underlying9 (hval 1 9 v1 rfl rfl) h1
  obtain ⟨a2, len2, cap2, rfl⟩ := okWide_slice Tryd.underlying23 (hval 2 23 v2 rfl rfl)
  obtain ⟨ty', rfl, rfl, rfl, w3⟩ := open_string Tryd.underlying9 (hval 3 9 v3 rfl rfl) h3
  obtain ⟨a4, len4, cap4, rfl⟩ := okWide_slice Tryd.underlying23 (hval 4 23 v4 rfl rfl)
  have lt0 : ∀ x ∈ p0, x.block < W.heap.size := by obtain ⟨m, hm⟩ := h0; exact DataW.trod_lt m _ _ _ hm
  have lt2 : ∀ x ∈ p2, x.block < W.heap.size := by obtain ⟨m, hm⟩ := h2; exact DataW.trod_lt m _ _ _ hm
  have lt4 : ∀ x ∈ p4, x.block < W.heap.size := by obtain ⟨m, hm⟩ := h4; exact DataW.trod_lt m _ _ _ hm
  obtain ⟨b0, o0, ks, hkl, hk, hkm⟩ := bys_open h0
  obtain ⟨b2, o2, vs, hvl, hv, hvm⟩ := strs_open h2
  obtain ⟨b4, o4, us, hul, hu, hum⟩ := strs_open h4
  clear hA0 hval0
  have hty : ty.size ≤ 9223372036854775807 := by have := w1; unfold maxLen at this; exact this
  have hty' : ty'.size ≤ 9223372036854775807 := by have := w3; unfold maxLen at this; exact this
  refine (apart_any a0 len0 cap0 b0 o0 ks ty a2 len2 cap2 b2 o2 vs ty' a4 len4 cap4 b4 o4 us W hkm hkl hk hty hvm hvl hv hty' hum hul hu (of_laid hL)).mono fun e W' ⟨he, bel⟩ => ?_
  subst he
  exact ⟨_, rfl, _, _, _, [], _, [], hW', trodAll_mk1 (shut_bool Tryd.underlying4 _),
    (trodAll_cons_mk (Below.trod laidOut (by kernel_rfl) (of_decide_eq_true (by kernel_rfl)) h0 bel lt0) (trodAll_cons_mk (shut_string Tryd.underlying9 w1) (trodAll_cons_mk (Below.trod laidOut (by kernel_rfl) (of_decide_eq_true (by kernel_rfl)) h2 bel lt2) (trodAll_cons_mk (shut_string Tryd.underlying9 w3) (trodAll_cons_mk (Below.trod laidOut (by kernel_rfl) (of_decide_eq_true (by kernel_rfl)) h4 bel lt4) trodAll_mk0))))), rfl, bel.frame _, fun h => by cases h⟩

/-- THE ROW's STATEMENT. -/
theorem fnRuleKeyApart_row : Rows.FnRuleKeyTellsRulesApartSaid :=
  OpenClaim.holds_of_wide 4 Tryd.f4 rfl rfl rfl rfl rfl rfl rfl ⟨rfl, rfl, rfl, rfl, rfl⟩ rfl rfl rfl rfl rfl (by kernel_rfl) Tryd.func4 (by kernel_rfl)
    (of_decide_eq_true (by kernel_rfl)) (by unfold Func.isWrapper; first | (rw [if_pos (by decide +kernel)]; kernel_rfl) | (rw [if_neg (by decide +kernel)]; exact ⟨rfl, rfl⟩))
    (fun os started H enc _ => apart_lifted os started H enc)

/-- THE TIED CARD. -/
theorem fnRuleKeyApart_card : Rows.FnRuleKeyTellsRulesApartCardSaid :=
  Claim7.holds_tied_plain_at .later [] [.data, .data, .data] true (true, "b378826041d3ce1fe8cd5eecc2e94365ef8236c1f6008304cedd24b2a60ca5b5") false
    fnRuleKeyApart_row (fun _ h => by cases h) (by kernel_rfl) (fun _ h => by cases h) fnRuleKeyTellsRulesApart_row_tie rfl ⟨rfl, rfl⟩ (by kernel_rfl) rfl
    (fun f fn hf hfn => by
      obtain rfl : f = 4 := Option.some.inj ((show Tryd.prog.funcNamed Rows.fnRuleKeyTellsRulesApartRow.func = some 4 by kernel_rfl).symm.trans hf) |>.symm
      obtain rfl : fn = Tryd.f4 := (Option.some.inj (Tryd.func4.symm.trans hfn)).symm
      exact ⟨by kernel_rfl, fun j t ht => by
        rw [Tryd.params4] at ht
        have hm : t ∈ [22, 9, 23, 9, 23] := by simpa using Array.mem_of_getElem? ht
        have hall : ([22, 9, 23, 9, 23].all fun u => !Tryd.prog.wantsStandIn u) = true := by kernel_rfl
        exact (show Tryd.prog.wantsStandIn t = false by simpa using List.all_eq_true.1 hall t hm)⟩)
    (by kernel_rfl)
#print axioms fnRuleKeyApart_card
end Go.Proofs.Qxb6627736aDoor
