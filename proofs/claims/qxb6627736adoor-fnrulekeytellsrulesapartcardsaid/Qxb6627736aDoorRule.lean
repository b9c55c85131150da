/- THE WALK OF zzDecodeRule. -/
import Derived.Test.Qxb6627736aDoorLawParts
namespace Go.Proofs.Qxb6627736aDoor
open Go.RowKit

theorem cut_bys_at {w : World} {av : Option Addr} {n cv g off : Nat} {K : Nat → UInt8} (h : Bys w av n g off K) (lo hi : Nat) (h1 : lo ≤ hi) (h2 : hi ≤ n) (h3 : n ≤ cv) : Bys w (cutAt av cv lo) (hi - lo) g (off + lo) (fun i => K (lo + i)) := by
  refine ⟨fun h0 => ?_, fun h0 => h.lt_ (by omega), fun i hi' => ?_⟩
  · rw [cutAt, if_neg (by omega), h.at_ (by omega)]
    simp [add_plain]
  · have := h.cell_ (lo + i) (by omega)
    rwa [← Nat.add_assoc] at this

/-- Where the type ends. -/
theorem type_ends {ty : List UInt8} {vs : List ByteArray} {j : Nat} (h : j < (ty ++ enc vs).length) (hnc : NoComma ty) :
    (j < ty.length → ((ty ++ enc vs).getD j 0).toNat ≠ 44) ∧ (j = ty.length → ((ty ++ enc vs).getD j 0).toNat = 44) := by
  refine ⟨fun hj => ?_, fun hj => ?_⟩
  · rw [getD_append_left hj]
    intro e
    have hm : ty.getD j 0 ∈ ty := by simp [List.getD, List.getElem?_eq_getElem hj]
    exact hnc _ hm (UInt8.toNat_inj.1 (by simpa using e))
  · subst hj
    have := getD_append_right (a := ty) (b := enc vs) (i := 0) (d := (0 : UInt8))
    rw [Nat.add_zero] at this
    rw [this]
    match vs with
    | [] => simp [enc_nil] at h
    | v :: r => rw [enc_cons]; rfl

set_option maxHeartbeats 1000000 in
theorem decodeRule_any (ab : Option Addr) (N cb g4 : Nat) (L : List UInt8) (a1 : Option Addr) (lk c1 g1 : Nat) (ks : List UInt8) (ty : ByteArray) (vs : List ByteArray) (w : World)
    (hb : Bys w ab N g4 0 (fun i => L.getD i 0)) (hcb : N ≤ cb) (hk : Bys w a1 lk g1 0 (fun i => ks.getD i 0)) (hkl : ks.length = lk) (hL : L = ks ++ ty.data.toList ++ enc vs) (hN : L.length = N) (hNm : N ≤ 1099511627776) (hnc : NoComma ty.data.toList) (hvl : vs.length ≤ 1048576) :
    Calls Tryd.prog 16 #[.slice ab N cb, .slice a1 lk c1] w fun e w' => ∃ (av : Option Addr) (cv B : Nat), e = .returned (.tuple #[.string ty, .slice av vs.length cv, .bool true]) ∧ w'.ownsRow B 9 1 (.slice av vs.length cv) vs.length (strCells vs) ∧ Below w.heap.size w w' := by
  have hty : ty.data.toList.length = ty.size := by simp
  have hNn : N = lk + ty.size + (enc vs).length := by rw [← hN, hL]; simp only [List.length_append, hkl, hty]
  obtain ⟨el, hel⟩ : ∃ el, el = (enc vs).length := ⟨_, rfl⟩
  rw [← hel] at hNn
  have HNN : Hid (N = lk + ty.size + el) := hNn
  have hN2 : lk + ty.size ≤ N := by omega
  -- b[:len(key)]
  have hcA := run_cuth22 ab N cb lk (by omega)
  simp only [Nat.sub_zero] at hcA
  have hBA := cut_bys hb 0 lk (Nat.zero_le _) (by omega) hcb
  simp only [Nat.sub_zero, Nat.zero_add] at hBA
  -- rest
  have hcR := run_cutl22 ab N cb lk (by omega)
  have hBR := cut_bys hb lk N (by omega) (Nat.le_refl _) hcb
  obtain ⟨A0, hA0⟩ : ∃ A, A = cutAt ab cb 0 := ⟨_, rfl⟩
  obtain ⟨AR, hAR⟩ : ∃ A, A = cutAt ab cb lk := ⟨_, rfl⟩
  rw [← hA0] at hcA hBA
  rw [← hAR] at hcR hBR
  clear hA0 hAR
  have eR : ∀ i, L.getD (lk + i) 0 = (ty.data.toList ++ enc vs).getD i 0 := fun i => by rw [hL, List.append_assoc, ← hkl, getD_append_right]
  replace hBR := hBR.congr (M := fun i => (ty.data.toList ++ enc vs).getD i 0) (fun i _ => eR i)
  -- rest[j:], rest[:j] at j = len(ty)
  have hcS := run_cutl22 AR (N - lk) (cb - lk) ty.size (by omega)
  have hBS := cut_bys_at hBR ty.size (N - lk) (by omega) (Nat.le_refl _) (show N - lk ≤ cb - lk by omega)
  have hcT := run_cuth22 AR (N - lk) (cb - lk) ty.size (by omega)
  simp only [Nat.sub_zero] at hcT
  have hBT := cut_bys_at hBR 0 ty.size (Nat.zero_le _) (by omega) (show N - lk ≤ cb - lk by omega)
  simp only [Nat.sub_zero, Nat.zero_add, Nat.add_zero] at hBT
  obtain ⟨AS, hAS⟩ : ∃ A, A = cutAt AR (cb - lk) ty.size := ⟨_, rfl⟩
  obtain ⟨AT, hAT⟩ : ∃ A, A = cutAt AR (cb - lk) 0 := ⟨_, rfl⟩
  rw [← hAS] at hcS hBS
  rw [← hAT] at hcT hBT
  clear hAS hAT eR
  have eS : ∀ i, i < N - lk - ty.size → (ty.data.toList ++ enc vs).getD (ty.size + i) 0 = (enc vs).getD i 0 := fun i _ => by rw [← hty, getD_append_right]
  have eT : ∀ i, i < ty.size → (ty.data.toList ++ enc vs).getD i 0 = ty.data.toList.getD i 0 := fun i hi => getD_append_left (by rw [hty]; exact hi)
  have hcvt : ∀ w' : World, Below w.heap.size w w' → (convert 22 9 (.slice AT ty.size (cb - lk))).run Tryd.prog w' = .ok (.string ty) w' := fun w' hw => str_cut (hBT.below hw hBT.lt_) ty rfl eT
  have HCV : Hid _ := hcvt
  have eK : ∀ i, i < lk → L.getD i 0 = ks.getD i 0 := fun i hi => by rw [hL, List.append_assoc, getD_append_left (by rw [hkl]; exact hi)]
  have HK : Hid _ := eK
  have HTE : Hid (∀ j, j < N - lk → (j < ty.size → ((ty.data.toList ++ enc vs).getD j 0).toNat ≠ 44) ∧ (j = ty.size → ((ty.data.toList ++ enc vs).getD j 0).toNat = 44)) := fun j hj => by
    have := type_ends (ty := ty.data.toList) (vs := vs) (j := j) (by rw [List.length_append, hty]; omega) hnc
    rwa [hty] at this
  have HES : Hid _ := eS
  have HEL : Hid ((enc vs).length = N - lk - ty.size) := by show _ = _; omega
  have HLEN : Hid (vs.length ≤ 1048576) := hvl
  have hd0 : decide ((N : Int) < (lk : Int)) = false := by simp; omega
  clear hcvt eK eS eT hL hN hkl hty hNn hel hnc hvl HNN
  go_enter Tryd.func16, Tryd.ntmps16
  go_wp2_with fail
  refine (equalBytes_any A0 lk cb g4 0 _ a1 lk c1 g1 0 _ w (by omega) hBA hk).mono ?_
  rintro e w1 ⟨⟨r1, rfl, hr1⟩, q1, rfl⟩
  obtain rfl : r1 = true := hr1.2 ⟨rfl, HK.out⟩
  clear hr1 hBA hk HK hb
  go_wp2
  go_loop [8] (fun i => ∃ (j : Nat), j ≤ ty.size ∧ i = .int .i64 j) (fun i => ty.size - (intOf i).toNat)
  case atStart => exact ⟨0, Nat.zero_le _, rfl⟩
  case round =>
    obtain ⟨j, hj, rfl⟩ := hrel
    by_cases hlt : j < ty.size
    · have hjn : j < N - lk := by omega
      have hix := (hBR.drewN q1).idx (cb - lk) hjn
      obtain ⟨c, hc, hcell⟩ : ∃ c : Nat, c ≠ 44 ∧ w.cell? ⟨g4, lk + j, none⟩ = some (.int .u8 (c : Int)) := ⟨_, (HTE.out j hjn).1 hlt, hBR.cell_ j hjn⟩
      have hcb44 : ((c : Int) != 44) = true := by simp; omega
      have hjn' : (j : Int) < ((N - lk : Nat) : Int) := by omega
      clear hc
      go_wp2
      go_round
      case rel => exact ⟨j + 1, by omega, by go_num⟩
      case measure => simp [intOf]; omega
    · obtain rfl : j = ty.size := by omega
      by_cases hmore : ty.size < N - lk
      · have hix := (hBR.drewN q1).idx (cb - lk) hmore
        obtain ⟨c, hc, hcell⟩ : ∃ c : Nat, c = 44 ∧ w.cell? ⟨g4, lk + ty.size, none⟩ = some (.int .u8 (c : Int)) := ⟨_, (HTE.out _ hmore).2 rfl, hBR.cell_ _ hmore⟩
        subst hc
        have hjn' : (ty.size : Int) < ((N - lk : Nat) : Int) := by omega
        go_wp2_with fail
        refine (decode_cut (hBS.drewN q1) (enc vs) vs rfl HEL.out HES.out (by omega) (by omega) HLEN.out).mono ?_
        rintro e w2 ⟨av, cv, rfl, hown2, hb2⟩
        have hbw2 : Below w.heap.size w w2 := (below_drewN (Below.refl _ w) q1).trans hb2
        have hcv2 := HCV.out w2 hbw2
        go_wp2
        go_ret3
        exact ⟨av, cv, _, rfl, hown2, hbw2⟩
      · have hd1 : decide ((ty.size : Int) < ((N - lk : Nat) : Int)) = false := by simp; omega
        go_wp2_with fail
        refine (decode_cut (hBS.drewN q1) (enc vs) vs rfl HEL.out HES.out (by omega) (by omega) HLEN.out).mono ?_
        rintro e w2 ⟨av, cv, rfl, hown2, hb2⟩
        have hbw2 : Below w.heap.size w w2 := (below_drewN (Below.refl _ w) q1).trans hb2
        have hcv2 := HCV.out w2 hbw2
        go_wp2
        go_ret3
        exact ⟨av, cv, _, rfl, hown2, hbw2⟩
end Go.Proofs.Qxb6627736aDoor
