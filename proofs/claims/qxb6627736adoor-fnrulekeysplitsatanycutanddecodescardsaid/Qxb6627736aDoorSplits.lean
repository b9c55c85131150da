/- THE WALK OF FnRuleKeySplitsAtAnyCutAndDecodes. -/
import Derived.Test.Qxb6627736aDoorLawParts
namespace Go.Proofs.Qxb6627736aDoor
open Go.RowKit

set_option maxHeartbeats 2000000 in
set_option maxRecDepth 20000 in
theorem splits_any (ak : Option Addr) (lk ck bk ok : Nat) (ks : List UInt8) (ty : ByteArray) (ao : Option Addr) (len cap b off : Nat) (vs : List ByteArray) (k0 : Int) (w : World)
    (hkm : lk ≤ 9223372036854775807) (hkl : ks.length = lk) (hk : Bys w ak lk bk ok (fun i => ks.getD i 0)) (hty : ty.size ≤ 9223372036854775807) (hm : len ≤ 9223372036854775807) (hvl : vs.length = len) (hr : Strs w ao len b off (fun i => vs.getD i ByteArray.empty)) (hpow : PowIs w.heap.size w) :
    Calls Tryd.prog 3 #[.slice ak lk ck, .string ty, .slice ao len cap, .int .i64 k0] w fun e w' => e = .returned (.bool true) ∧ Below w.heap.size w w' := by
  by_cases hk0 : k0 < 0 ∨ (len : Int) < k0
  · rcases hk0 with hk0 | hk0
    all_goals
      go_enter Tryd.func3, Tryd.ntmps3
      go_wp2_with (first
        | (go_at_call 5; refine (zzSplits_tells _ _ _ _ _ _ _ _ _ _ _ _ hm hr).mono ?_; rintro e w' ⟨⟨b5, rfl, hb5⟩, rfl⟩)
        | (go_at_call 6; refine (addLen_any _ _ _).mono ?_; rintro e w' ⟨⟨t6, rfl⟩, rfl⟩)
        | (go_at_call 7; refine (addStrings_any _ _ _ _ _ _ _ _ hm hr).mono ?_; rintro e w' ⟨⟨t7, rfl⟩, rfl⟩))
      all_goals (go_ret; exact ⟨rfl, Below.refl _ _⟩)
  obtain ⟨cut, rfl⟩ : ∃ k : Nat, k0 = k := ⟨k0.toNat, by omega⟩
  have hcut : (cut : Int) ≤ len := by omega
  clear hk0
  go_enter Tryd.func3, Tryd.ntmps3
  go_wp2_with (first
        | (go_at_call 5; refine (zzSplits_tells _ _ _ _ _ _ _ _ _ _ _ _ hm hr).mono ?_; rintro e w' ⟨⟨b5, rfl, hb5⟩, rfl⟩)
        | (go_at_call 6; refine (addLen_any _ _ _).mono ?_; rintro e w' ⟨⟨t6, rfl⟩, rfl⟩)
        | (go_at_call 7; refine (addStrings_any _ _ _ _ _ _ _ _ hm hr).mono ?_; rintro e w' ⟨⟨t7, rfl⟩, rfl⟩))
  · go_ret; exact ⟨rfl, Below.refl _ _⟩
  · go_ret; exact ⟨rfl, Below.refl _ _⟩
  have hb : (!b5) = false := by assumption
  have hT := hb5 (by simpa using hb)
  rw [show totN (fun i => vs.getD i ByteArray.empty) len = tot vs from by rw [← hvl]; exact tot_all vs] at hT
  clear hb5 hb
  have HV : Hid (vs.length = len) := hvl
  have HK : Hid (ks.length = lk) := hkl
  have HSZ : Hid (∀ v ∈ vs, v.size ≤ 1048576) := fun v hv => by have := size_le_tot hv; omega
  have HE : Hid ((enc vs).length ≤ 24117248) := by have := enc_bound (vs := vs) (M := 1048576) (by rw [hvl]; omega) (Nat.le_refl _); show _ ≤ _; omega
  clear hvl hkl
  refine (cloneBytes_any ak lk ck bk ok ks _ HK.out (by omega) hk).mono ?_
  rintro e w1 ⟨a1, c1, rfl, hown1, hb1⟩
  go_wp2_with fail
  refine (cloneStrings_any ao len cap b off vs _ HV.out (by omega) (hr.below hb1 hr.lt_)).mono ?_
  rintro e w2 ⟨a2, c2, rfl, hown2, hb2⟩
  obtain ⟨g1, hk1, hc1, _, _⟩ := own_bys (own_below hown1 hb2)
  obtain ⟨g2, hv2, hc2, _, _⟩ := own_strs hown2
  have hbw2 : Below w.heap.size w w2 := hb1.trans (hb2.mono hb1.size)
  have hsz2 := hbw2.size
  clear hown1 hown2 hb1 hb2 hk hr
  go_wp2_with fail
  refine (cloneBytes_any a1 lk c1 g1 0 ks _ HK.out (by omega) hk1).mono ?_
  rintro e w3 ⟨a3, c3, rfl, hown3, hb3⟩
  have hbw3 : Below w.heap.size w w3 := hbw2.trans (hb3.mono hsz2)
  have hP3 := hpow.up hbw3 hsz2
  go_wp2_with fail
  refine (zzKey_any w2.heap.size lk _ ks ty a2 len c2 g2 0 vs w3 HK.out hown3 hb3.size HV.out (hv2.below hb3 hv2.lt_) hv2.lt_ (by have := HE.out; have := HK.out; simp only [List.length_append, Array.length_toList]; show _ + ty.size + _ ≤ _; omega) (by omega) HSZ.out hP3).mono ?_
  rintro e w4 ⟨v4, rfl, hown4, hb4⟩
  obtain ⟨a4, c4, hv4⟩ := own_shape hown4
  subst hv4
  have hbw4 : Below w2.heap.size w2 w4 := hb3.trans hb4
  obtain ⟨L, hL⟩ : ∃ L, L = ks ++ ty.data.toList ++ enc vs := ⟨_, rfl⟩
  rw [← hL] at hown4 ⊢
  have HL : Hid (L = ks ++ ty.data.toList ++ enc vs) := hL
  obtain ⟨N, hN⟩ : ∃ N, N = L.length := ⟨_, rfl⟩
  rw [← hN] at hown4 ⊢
  have HN : Hid (N = L.length) := hN
  clear hL hN hown3 hb3 hb4 hP3 hbw3
  have hk4 := hk1.below hbw4 hk1.lt_
  have hv4 := hv2.below hbw4 hv2.lt_
  have hbww4 : Below w.heap.size w w4 := hbw2.trans (hbw4.mono hsz2)
  have hsz4 := hbww4.size
  have hP4 := hpow.up hbww4 hsz4
  clear hk1 hv2 hbw2 hbw4 hpow
  have hcu := run_cuth23 a2 len c2 cut (by omega)
  simp only [Nat.sub_zero] at hcu
  obtain ⟨A0, hA0⟩ : ∃ A, A = cutAt a2 c2 0 := ⟨_, rfl⟩
  rw [← hA0] at hcu
  have hvA := cut_strs hv4 0 cut (Nat.zero_le _) (by omega) hc2
  rw [← hA0] at hvA
  simp only [Nat.sub_zero, Nat.zero_add] at hvA
  clear hA0
  replace hvA := hvA.congr (T := fun i => (vs.take cut).getD i ByteArray.empty) (fun i hi => (getD_take hi).symm)
  have HV1 : Hid ((vs.take cut).length = cut) := by have := HV.out; show _ = _; rw [List.length_take]; omega
  have HE1 : Hid ((enc (vs.take cut)).length ≤ 24117248) := by
    have h1 := HE.out
    rw [← List.take_append_drop cut vs, enc_append, List.length_append] at h1
    show _ ≤ _
    omega
  have HSZ1 : Hid (∀ v ∈ vs.take cut, v.size ≤ 1048576) := fun v hv => HSZ.out v (List.mem_of_mem_take hv)
  go_wp2_with fail
  go_region_with (first
    | (go_at_call 8; refine (clone_drew a1 lk c1 g1 0 ks w4 HK.out (by omega) hk4).mono ?_; rintro e w5 ⟨a5, c5, rfl, hown5, hb5⟩)
    | (go_at_call 10; refine (zzKey_any w4.heap.size lk _ ks ty A0 cut c2 g2 0 (vs.take cut) w5 HK.out hown5 hb5.size HV1.out (hvA.below hb5 hvA.lt_) hvA.lt_ (by have := HE1.out; have := HK.out; simp only [List.length_append, Array.length_toList]; show _ + ty.size + _ ≤ _; omega) (by omega) HSZ1.out (hP4.on hb5)).mono ?_; rintro e w6 ⟨v6, rfl, hown6, hb6⟩))
  have hb46 : Below w4.heap.size w4 w6 := hb5.trans hb6
  have hsz6 := hb46.size
  obtain ⟨F, hF⟩ : ∃ F, F = ks ++ ty.data.toList ++ enc (vs.take cut) := ⟨_, rfl⟩
  rw [← hF] at hown6
  have hFL : F ++ (⟨#[]⟩ : ByteArray).data.toList ++ enc (vs.drop cut) = L := by
    rw [hF, HL.out]
    simp only [List.append_nil, List.append_assoc]
    rw [← enc_append, List.take_append_drop]
  obtain ⟨n6, hn6⟩ : ∃ n, F.length = n := ⟨_, rfl⟩
  rw [hn6] at hown6
  have HN6 : Hid (F.length = n6) := hn6
  have HFL : Hid (F ++ (⟨#[]⟩ : ByteArray).data.toList ++ enc (vs.drop cut) = L) := hFL
  have hNb : N ≤ 26214400 ∧ lk + ty.size ≤ N := by
    have h1 := HN.out
    rw [HL.out] at h1
    simp only [List.length_append, Array.length_toList] at h1
    have h2 := HE.out
    have h3 := HK.out
    have h4 : ty.data.size = ty.size := rfl
    omega
  obtain ⟨hN1, hN2⟩ := hNb
  clear hF hFL hn6 hown5 hb5 hb6 hvA HV1 HE1 HSZ1 hcu
  obtain ⟨a6, c6, hv6⟩ := own_shape hown6
  subst hv6
  have hcu := run_cutl23 a2 len c2 cut (by omega)
  obtain ⟨A2, hA2⟩ : ∃ A, A = cutAt a2 c2 cut := ⟨_, rfl⟩
  rw [← hA2] at hcu
  have hvA := (cut_strs hv4 cut len (by omega) (Nat.le_refl _) hc2).below hb46 (fun _ => hv4.lt_ (by omega))
  rw [← hA2] at hvA
  clear hA2
  replace hvA := hvA.congr (T := fun i => (vs.drop cut).getD i ByteArray.empty) (fun i _ => getD_drop.symm)
  have HV2 : Hid ((vs.drop cut).length = len - cut) := by have := HV.out; show _ = _; rw [List.length_drop]; omega
  have HSZ2 : Hid (∀ v ∈ vs.drop cut, v.size ≤ 1048576) := fun v hv => HSZ.out v (List.mem_of_mem_drop hv)
  go_wp2_with fail
  refine (zzKey_any w4.heap.size n6 _ F ⟨#[]⟩ A2 (len - cut) (c2 - cut) g2 cut (vs.drop cut) w6 HN6.out hown6 hsz6 HV2.out hvA (fun _ => hv4.lt_ (by omega)) (by rw [HFL.out, ← HN.out]; omega) (by omega) HSZ2.out (hP4.on hb46)).mono ?_
  rintro e w7 ⟨v7, rfl, hown7, hb7⟩
  rw [HFL.out, ← HN.out] at hown7
  have hb47 : Below w4.heap.size w4 w7 := hb46.trans hb7
  obtain ⟨a7, c7, hv7⟩ := own_shape hown7
  subst hv7
  obtain ⟨g4, hwh4, hc4, _, hc4m⟩ := own_bys hown4
  obtain ⟨g7, hjo, _, _, _⟩ := own_bys hown7
  have hwh := hwh4.below hb47 hwh4.lt_
  have hk7 := hk4.below hb47 hk4.lt_
  have hv7 := hv4.below hb47 hv4.lt_
  have hbw7 : Below w.heap.size w w7 := hbww4.trans (hb47.mono hsz4)
  clear hown6 hb46 hvA HV2 HSZ2 hown4 hown7 hwh4 hk4 hv4 hb47 hb7 hcu HFL HN6 hsz6 hbww4 hP4
  go_wp2_with fail
  refine (equalBytes_any a4 N c4 g4 0 _ a7 N c7 g7 0 _ w7 (by omega) hwh hjo).mono ?_
  rintro e w8 ⟨⟨r8, rfl, hr8⟩, q8, rfl⟩
  obtain rfl : r8 = true := hr8.2 ⟨rfl, fun _ _ => rfl⟩
  clear hr8 hjo
  have hLk : ∀ i, i < lk → L.getD i 0 = ks.getD i 0 := fun i hi => by
    rw [HL.out, List.append_assoc, getD_append_left (by rw [HK.out]; exact hi)]
  have hLt : ∀ i, i < ty.size → L.getD (lk + i) 0 = ty.data.toList.getD i 0 := fun i hi => by
    rw [HL.out, List.append_assoc, ← HK.out, getD_append_right, getD_append_left (by simpa using hi)]
  have hLe : ∀ i, i < N - (lk + ty.size) → L.getD (lk + ty.size + i) 0 = (enc vs).getD i 0 := fun i _ => by
    have e : lk + ty.size = (ks ++ ty.data.toList).length := by rw [List.length_append, HK.out]; simp
    rw [HL.out, e, getD_append_right]
  have HEL : Hid ((enc vs).length = N - (lk + ty.size)) := by
    have h1 := HN.out
    rw [HL.out] at h1
    simp only [List.length_append, Array.length_toList] at h1
    have h3 := HK.out
    have h4 : ty.data.size = ty.size := rfl
    show _ = _
    omega
  -- whole[:len(key)]
  have hcA := run_cuth22 a4 N c4 lk (by omega)
  simp only [Nat.sub_zero] at hcA
  have hBA := cut_bys hwh 0 lk (Nat.zero_le _) (by omega) hc4
  simp only [Nat.sub_zero, Nat.zero_add] at hBA
  -- whole[len(key):head]
  have hcB := run_cut22 a4 N c4 lk (lk + ty.size) (by omega) (by omega)
  rw [show ((lk + ty.size : Nat) : Int) = (lk : Int) + (ty.size : Int) by omega, Nat.add_sub_cancel_left] at hcB
  have hBB := cut_bys hwh lk (lk + ty.size) (by omega) (by omega) hc4
  rw [Nat.add_sub_cancel_left] at hBB
  -- whole[head:]
  have hcC := run_cutl22 a4 N c4 (lk + ty.size) (by omega)
  rw [show ((lk + ty.size : Nat) : Int) = (lk : Int) + (ty.size : Int) by omega] at hcC
  have hBC := cut_bys hwh (lk + ty.size) N (by omega) (Nat.le_refl _) hc4
  obtain ⟨A3, hA3⟩ : ∃ A, A = cutAt a4 c4 0 := ⟨_, rfl⟩
  obtain ⟨A4, hA4⟩ : ∃ A, A = cutAt a4 c4 lk := ⟨_, rfl⟩
  obtain ⟨A5, hA5⟩ : ∃ A, A = cutAt a4 c4 (lk + ty.size) := ⟨_, rfl⟩
  rw [← hA3] at hcA hBA
  rw [← hA4] at hcB hBB
  rw [← hA5] at hcC hBC
  clear hA3 hA4 hA5
  have hcvt : ∀ q, (convert 22 9 (.slice A4 ty.size (c4 - lk))).run Tryd.prog (w7.drewN q) = .ok (.string ty) (w7.drewN q) := fun q => str_cut (hBB.drewN q) ty rfl hLt
  go_wp2_with fail
  refine (equalBytes_any A3 lk c4 g4 0 _ a1 lk c1 g1 0 _ (w7.drewN q8) (by omega) (hBA.drewN q8) (hk7.drewN q8)).mono ?_
  rintro e w9 ⟨⟨r9, rfl, hr9⟩, q9, hw9⟩
  obtain rfl : r9 = true := hr9.2 ⟨rfl, hLk⟩
  rw [World.drewN_drewN] at hw9
  subst hw9
  clear hr9
  go_wp2_with fail
  refine (decode_cut (hBC.drewN (q8 + q9)) (enc vs) vs rfl HEL.out hLe (by omega) (by omega) (by rw [HV.out]; omega)).mono ?_
  rintro e w10 ⟨a10, c10, rfl, hown10, hb10⟩
  obtain ⟨g10, hd10, _, _, _⟩ := own_strs hown10
  have hv10 := (hv7.drewN (q8 + q9)).below hb10 hv7.lt_
  have hbw10 : Below w.heap.size w w10 := (below_drewN hbw7 (q8 + q9)).trans (hb10.mono hbw7.size)
  rw [HV.out] at hd10 ⊢
  clear hown10 hcA hcB hcC hcvt hBA hBB hBC hLk hLt hLe hwh hk7 hv7
  go_wp2_with fail
  refine (equalStrings_any a10 len c10 g10 0 _ a2 len c2 g2 0 _ w10 (by omega) hd10 hv10).mono ?_
  rintro e w11 ⟨⟨r11, rfl, hr11⟩, q11, rfl⟩
  obtain rfl : r11 = true := hr11.2 ⟨rfl, fun _ _ => rfl⟩
  clear hr11
  go_wp2
  go_ret
  exact ⟨rfl, below_drewN hbw10 _⟩
end Go.Proofs.Qxb6627736aDoor
