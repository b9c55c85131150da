/- THE WALK OF FnRuleKeyTellsRulesApart. -/
import Derived.Test.Qxb6627736aDoorRule
namespace Go.Proofs.Qxb6627736aDoor
open Go.RowKit

/-- The two keys are alike just where the rules are. -/
theorem keys_tell {ks : List UInt8} {t t' : ByteArray} {vs vs' : List ByteArray} (h1 : NoComma t.data.toList) (h2 : NoComma t'.data.toList) :
    ks ++ t.data.toList ++ enc vs = ks ++ t'.data.toList ++ enc vs' ↔ t = t' ∧ vs = vs' := by
  constructor
  · intro h
    rw [List.append_assoc, List.append_assoc] at h
    obtain ⟨e1, e2⟩ := typ_inj h1 h2 (List.append_cancel_left h)
    exact ⟨bytes_ext e1, e2⟩
  · rintro ⟨rfl, rfl⟩
    rfl
theorem tells_list {α : Type} {r : Bool} {a b : List α} {d : α} (h : Tells r a.length b.length (fun i => a.getD i d) (fun i => b.getD i d)) : r = true ↔ a = b := h.trans list_of_tells

set_option maxHeartbeats 2000000 in
set_option maxRecDepth 20000 in
theorem apart_any (ak : Option Addr) (lk ck bk ok : Nat) (ks : List UInt8) (ty : ByteArray) (ao : Option Addr) (len cap b off : Nat) (vs : List ByteArray) (ty' : ByteArray) (ao' : Option Addr) (len' cap' b' off' : Nat) (vs' : List ByteArray) (w : World)
    (hkm : lk ≤ 9223372036854775807) (hkl : ks.length = lk) (hk : Bys w ak lk bk ok (fun i => ks.getD i 0)) (hty : ty.size ≤ 9223372036854775807) (hm : len ≤ 9223372036854775807) (hvl : vs.length = len) (hr : Strs w ao len b off (fun i => vs.getD i ByteArray.empty))
    (hty' : ty'.size ≤ 9223372036854775807) (hm' : len' ≤ 9223372036854775807) (hvl' : vs'.length = len') (hr' : Strs w ao' len' b' off' (fun i => vs'.getD i ByteArray.empty)) (hpow : PowIs w.heap.size w) :
    Calls Tryd.prog 4 #[.slice ak lk ck, .string ty, .slice ao len cap, .string ty', .slice ao' len' cap'] w fun e w' => e = .returned (.bool true) ∧ Below w.heap.size w w' := by
  go_enter Tryd.func4, Tryd.ntmps4
  go_wp2_with (first
        | (go_at_call 14; refine (zzApart_tells _ _ _ _ _ _ _ _ _ _ _ _ _ _ _ _ _ _ hm hr hm' hr').mono ?_; rintro e w' ⟨⟨b5, rfl, hb5⟩, rfl⟩)
        | (go_at_call 6; refine (addLen_any _ _ _).mono ?_; rintro e w' ⟨⟨t6, rfl⟩, rfl⟩)
        | (go_at_call_of 7 (Value.slice ao len cap); refine (addStrings_any ao len cap b off _ _ _ hm hr).mono ?_; rintro e w' ⟨⟨t7, rfl⟩, rfl⟩)
        | (go_at_call_of 7 (Value.slice ao' len' cap'); refine (addStrings_any ao' len' cap' b' off' _ _ _ hm' hr').mono ?_; rintro e w' ⟨⟨t8, rfl⟩, rfl⟩))
  · go_ret; exact ⟨rfl, Below.refl _ _⟩
  · go_ret; exact ⟨rfl, Below.refl _ _⟩
  refine (hasComma_any ty _ hty).mono ?_
  rintro e w' ⟨⟨b15, rfl, hb15⟩, rfl⟩
  cases b15 with
  | true =>
    go_wp2
    go_ret
    exact ⟨rfl, Below.refl _ _⟩
  | false =>
  have hn1 := hb15 rfl
  clear hb15
  go_wp2_with fail
  refine (hasComma_any ty' _ hty').mono ?_
  rintro e w' ⟨⟨b16, rfl, hb16⟩, rfl⟩
  cases b16 with
  | true =>
    go_wp2
    go_ret
    exact ⟨rfl, Below.refl _ _⟩
  | false =>
  have hn2 := hb16 rfl
  clear hb16
  have hb : (!b5) = false := by assumption
  have hT := hb5 (by simpa using hb)
  rw [show totN (fun i => vs.getD i ByteArray.empty) len = tot vs from by rw [← hvl]; exact tot_all vs, show totN (fun i => vs'.getD i ByteArray.empty) len' = tot vs' from by rw [← hvl']; exact tot_all vs'] at hT
  clear hb5 hb
  have HV : Hid (vs.length = len) := hvl
  have HV' : Hid (vs'.length = len') := hvl'
  have HK : Hid (ks.length = lk) := hkl
  have HSZ : Hid (∀ v ∈ vs, v.size ≤ 1048576) := fun v hv => by have := size_le_tot hv; omega
  have HSZ' : Hid (∀ v ∈ vs', v.size ≤ 1048576) := fun v hv => by have := size_le_tot hv; omega
  have HE : Hid ((enc vs).length ≤ 24117248) := by have := enc_bound (vs := vs) (M := 1048576) (by rw [hvl]; omega) (Nat.le_refl _); show _ ≤ _; omega
  have HE' : Hid ((enc vs').length ≤ 24117248) := by have := enc_bound (vs := vs') (M := 1048576) (by rw [hvl']; omega) (Nat.le_refl _); show _ ≤ _; omega
  clear hvl hkl hvl'
  go_wp2_with fail
  refine (cloneBytes_any ak lk ck bk ok ks _ HK.out (by omega) hk).mono ?_
  rintro e w1 ⟨a1, c1, rfl, hown1, hb1⟩
  go_wp2_with fail
  refine (cloneStrings_any ao len cap b off vs _ HV.out (by omega) (hr.below hb1 hr.lt_)).mono ?_
  rintro e w2 ⟨a2, c2, rfl, hown2, hb2⟩
  have hb12 := hb1.trans (hb2.mono hb1.size)
  go_wp2_with fail
  refine (cloneStrings_any ao' len' cap' b' off' vs' _ HV'.out (by omega) (hr'.below hb12 hr'.lt_)).mono ?_
  rintro e w3 ⟨a3, c3, rfl, hown3, hb3⟩
  have hbw3 : Below w.heap.size w w3 := hb12.trans (hb3.mono hb12.size)
  have hsz3 := hbw3.size
  have hP3 := hpow.up hbw3 hsz3
  obtain ⟨g1, hk3, hc1, _, _⟩ := own_bys (own_below (own_below hown1 hb2) hb3)
  obtain ⟨g2, hv3, hc2, _, _⟩ := own_strs (own_below hown2 hb3)
  obtain ⟨g3, hu3, hc3, _, _⟩ := own_strs hown3
  clear hown1 hown2 hown3 hb1 hb2 hb3 hb12 hk hr hr' hpow
  -- out1
  go_wp2_with fail
  refine (cloneBytes_any a1 lk c1 g1 0 ks _ HK.out (by omega) hk3).mono ?_
  rintro e w4 ⟨a4, c4, rfl, hown4, hb4⟩
  go_wp2_with fail
  refine (zzKey_any w3.heap.size lk _ ks ty a2 len c2 g2 0 vs w4 HK.out hown4 hb4.size HV.out (hv3.below hb4 hv3.lt_) hv3.lt_ (by have := HE.out; have := HK.out; simp only [List.length_append, Array.length_toList]; show _ + ty.size + _ ≤ _; omega) (by omega) HSZ.out (hP3.on hb4)).mono ?_
  rintro e w5 ⟨v5, rfl, hown5, hb5⟩
  have hb35 := hb4.trans hb5
  obtain ⟨a5, c5, hv5⟩ := own_shape hown5
  subst hv5
  obtain ⟨L, hL⟩ : ∃ L, L = ks ++ ty.data.toList ++ enc vs := ⟨_, rfl⟩
  rw [← hL] at hown5 ⊢
  have HL : Hid (L = ks ++ ty.data.toList ++ enc vs) := hL
  obtain ⟨N, hN⟩ : ∃ N, L.length = N := ⟨_, rfl⟩
  rw [hN] at hown5 ⊢
  have HN : Hid (L.length = N) := hN
  have hNb : N ≤ 26214400 := by
    rw [← hN, hL]
    simp only [List.length_append, Array.length_toList]
    have h2 := HE.out
    have h3 := HK.out
    have h4 : ty.data.size = ty.size := rfl
    omega
  obtain ⟨g5, ho5, hc5, _, _⟩ := own_bys hown5
  have hbw5 : Below w.heap.size w w5 := hbw3.trans (hb35.mono hsz3)
  have hsz5 := hb35.size
  have hk5 := hk3.below hb35 hk3.lt_
  have hv5 := hv3.below hb35 hv3.lt_
  have hu5 := hu3.below hb35 hu3.lt_
  have hP5 := hP3.up hb35 hsz5
  clear hL hN hown4 hown5 hb4 hb5 hk3 hv3 hu3 hP3 hb35 hbw3
  -- out2
  go_wp2_with fail
  refine (cloneBytes_any a1 lk c1 g1 0 ks _ HK.out (by omega) hk5).mono ?_
  rintro e w6 ⟨a6, c6, rfl, hown6, hb6⟩
  go_wp2_with fail
  refine (zzKey_any w5.heap.size lk _ ks ty' a3 len' c3 g3 0 vs' w6 HK.out hown6 hb6.size HV'.out (hu5.below hb6 hu5.lt_) hu5.lt_ (by have := HE'.out; have := HK.out; simp only [List.length_append, Array.length_toList]; show _ + ty'.size + _ ≤ _; omega) (by omega) HSZ'.out (hP5.on hb6)).mono ?_
  rintro e w7 ⟨v7, rfl, hown7, hb7⟩
  have hb57 := hb6.trans hb7
  obtain ⟨a7, c7, hv7⟩ := own_shape hown7
  subst hv7
  obtain ⟨L', hL'⟩ : ∃ L, L = ks ++ ty'.data.toList ++ enc vs' := ⟨_, rfl⟩
  rw [← hL'] at hown7 ⊢
  have HL' : Hid (L' = ks ++ ty'.data.toList ++ enc vs') := hL'
  obtain ⟨N', hN'⟩ : ∃ N, L'.length = N := ⟨_, rfl⟩
  rw [hN'] at hown7 ⊢
  have HN' : Hid (L'.length = N') := hN'
  obtain ⟨g7, ho7, hc7, _, _⟩ := own_bys hown7
  have hbw7 : Below w.heap.size w w7 := hbw5.trans (hb57.mono hbw5.size)
  have ho57 := ho5.below hb57 ho5.lt_
  have hk7 := hk5.below hb57 hk5.lt_
  have hv7 := hv5.below hb57 hv5.lt_
  have hu7 := hu5.below hb57 hu5.lt_
  clear hL' hN' hown6 hown7 hb6 hb7 hk5 hv5 hu5 hP5 hb57 hbw5 ho5
  have HKT : Hid (L = L' ↔ ty = ty' ∧ vs = vs') := by show _ ↔ _; rw [HL.out, HL'.out]; exact keys_tell hn1 hn2
  have HN1 : Hid (NoComma ty.data.toList) := hn1
  clear hn1 hn2 HL'
  by_cases hte : ty = ty'
  · have htb : (ty.toList == ty'.toList) = true := by rw [hte]; simp
    go_wp2_with fail
    refine (equalStrings_any a2 len c2 g2 0 _ a3 len' c3 g3 0 _ w7 (by omega) hv7 hu7).mono ?_
    rintro e w8 ⟨⟨rS, rfl, hrS⟩, q8, rfl⟩
    have hS : rS = true ↔ vs = vs' := tells_list (d := ByteArray.empty) (by rw [HV.out, HV'.out]; exact hrS)
    have HS : Hid (rS = true ↔ vs = vs') := hS
    clear hrS hS
    go_wp2_with fail
    refine (equalBytes_any a5 N c5 g5 0 _ a7 N' c7 g7 0 _ (w7.drewN q8) (by omega) (ho57.drewN q8) (ho7.drewN q8)).mono ?_
    rintro e w8 ⟨⟨rB, rfl, hrB⟩, q9, hw8⟩
    have hBL : rB = true ↔ L = L' := tells_list (d := (0 : UInt8)) (by rw [HN.out, HN'.out]; exact hrB)
    have hsame : rB = rS := by
      rw [Bool.eq_iff_iff, hBL, HS.out, HKT.out]
      exact ⟨fun h => h.2, fun h => ⟨hte, h⟩⟩
    subst hsame
    rw [World.drewN_drewN] at hw8
    subst hw8
    clear hrB hBL HS HKT hte
    cases rB
    all_goals
      go_wp2_with fail
      refine (decodeRule_any a5 N c5 g5 L a1 lk c1 g1 ks ty vs _ (ho57.drewN (q8 + q9)) hc5 (hk7.drewN (q8 + q9)) HK.out HL.out HN.out (by omega) HN1.out (by rw [HV.out]; omega)).mono ?_
      rintro e w9 ⟨a9, c9, B9, rfl, hown9, hb9⟩
      obtain ⟨g9, hd9, _, _, _⟩ := own_strs hown9
      have hv9 := (hv7.drewN (q8 + q9)).below hb9 hv7.lt_
      have hbw9 : Below w.heap.size w w9 := (below_drewN hbw7 (q8 + q9)).trans (hb9.mono hbw7.size)
      rw [HV.out] at hd9 ⊢
      clear hown9 ho57 hk7 hv7 hu7 ho7
      go_wp2_with fail
      refine (equalStrings_any a9 len c9 g9 0 _ a2 len c2 g2 0 _ w9 (by omega) hd9 hv9).mono ?_
      rintro e w10 ⟨⟨r10, rfl, hr10⟩, q10, rfl⟩
      obtain rfl : r10 = true := hr10.2 ⟨rfl, fun _ _ => rfl⟩
      clear hr10
      go_wp2
      go_ret
      exact ⟨rfl, below_drewN hbw9 _⟩
  · have htb : (ty.toList == ty'.toList) = false := by
      rw [beq_eq_false_iff_ne]
      intro h
      rw [ByteArray.toList_eq, ByteArray.toList_eq] at h
      exact hte (bytes_ext h)
    have hLne : L ≠ L' := fun h => hte (HKT.out.1 h).1
    have HLNE : Hid (L ≠ L') := hLne
    clear hLne hte
    go_wp2_with fail
    refine (equalBytes_any a5 N c5 g5 0 _ a7 N' c7 g7 0 _ w7 (by omega) ho57 ho7).mono ?_
    rintro e w8 ⟨⟨rB, rfl, hrB⟩, q8, rfl⟩
    have hBL : rB = true ↔ L = L' := tells_list (d := (0 : UInt8)) (by rw [HN.out, HN'.out]; exact hrB)
    obtain rfl : rB = false := by
      cases rB
      · rfl
      · exact absurd (hBL.1 rfl) HLNE.out
    clear hrB hBL HLNE HKT
    go_wp2_with fail
    refine (decodeRule_any a5 N c5 g5 L a1 lk c1 g1 ks ty vs _ (ho57.drewN q8) hc5 (hk7.drewN q8) HK.out HL.out HN.out (by omega) HN1.out (by rw [HV.out]; omega)).mono ?_
    rintro e w9 ⟨a9, c9, B9, rfl, hown9, hb9⟩
    obtain ⟨g9, hd9, _, _, _⟩ := own_strs hown9
    have hv9 := (hv7.drewN q8).below hb9 hv7.lt_
    have hbw9 : Below w.heap.size w w9 := (below_drewN hbw7 q8).trans (hb9.mono hbw7.size)
    rw [HV.out] at hd9 ⊢
    clear hown9 ho57 hk7 hv7 hu7 ho7
    go_wp2_with fail
    refine (equalStrings_any a9 len c9 g9 0 _ a2 len c2 g2 0 _ w9 (by omega) hd9 hv9).mono ?_
    rintro e w10 ⟨⟨r10, rfl, hr10⟩, q10, rfl⟩
    obtain rfl : r10 = true := hr10.2 ⟨rfl, fun _ _ => rfl⟩
    clear hr10
    go_wp2
    go_ret
    exact ⟨rfl, below_drewN hbw9 _⟩
end Go.Proofs.Qxb6627736aDoor
