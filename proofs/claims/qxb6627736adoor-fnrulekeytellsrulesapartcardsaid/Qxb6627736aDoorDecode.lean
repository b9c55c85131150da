/- THE WALK OF zzDecodeValues. -/
import Derived.Test.Qxb6627736aDoorKey
namespace Go.Proofs.Qxb6627736aDoor
open Go.RowKit

theorem own_shape {w : World} {base e size : Nat} {v : Value} {n : Nat} {xs : List Value} (h : w.ownsRow base e size v n xs) : ∃ av cv, v = .slice av n cv := by
  rcases h.2 with ⟨rfl, rfl⟩ | ⟨g, cap, _, rfl, _⟩
  · exact ⟨none, 0, rfl⟩
  · exact ⟨_, _, rfl⟩
theorem strCells_take {vs : List ByteArray} {k : Nat} {v : ByteArray} {r : List ByteArray} (h : vs.drop k = v :: r) : strCells (vs.take (k + 1)) = strCells (vs.take k) ++ [.string v] ∧ vs.drop (k + 1) = r ∧ k < vs.length := by
  have hk : k < vs.length := by
    rcases Nat.lt_or_ge k vs.length with h2 | h2
    · exact h2
    · rw [List.drop_of_length_le h2] at h; cases h
  have e : vs.getD k ByteArray.empty = v := by
    have := congrArg (·[0]?) h
    simp at this
    simp [List.getD, this]
  refine ⟨by rw [take_succ_get hk, e]; simp [strCells], ?_, hk⟩
  rw [← List.drop_drop, h]; rfl

/-- What a round of the decoder reads. -/
structure Rd (w : World) (g off N i : Nat) (v : ByteArray) (D : List UInt8) : Prop where
  comma : w.cell? ⟨g, off + i, none⟩ = some (.int .u8 44)
  digit : ∀ p, p < D.length → w.cell? ⟨g, off + (i + 1 + p), none⟩ = some (.int .u8 ((D.getD p 0).toNat : Int)) ∧ 48 ≤ (D.getD p 0).toNat ∧ (D.getD p 0).toNat ≤ 57
  colon : w.cell? ⟨g, off + (i + 1 + D.length), none⟩ = some (.int .u8 58)
  body : ∀ p, p < v.size → w.cell? ⟨g, off + (i + 2 + D.length) + p, none⟩ = some (.int .u8 ((v.data.toList.getD p 0).toNat : Int))
  fits : i + 2 + D.length + v.size ≤ N
  pos : 0 < D.length
  head : (D.getD 0 0).toNat = 48 → D.length = 1
  value : dval D = v.size

theorem rd_of {w : World} {g off N i : Nat} {L : List UInt8} {v : ByteArray} {r : List ByteArray} (hN : L.length = N) (hc : ∀ j, j < N → w.cell? ⟨g, off + j, none⟩ = some (.int .u8 ((L.getD j 0).toNat : Int))) (h : At L i (v :: r)) : Rd w g off N i v (Lib.decDigits v.size) := by
  obtain ⟨h1, h2, h3, h4, h5, _⟩ := h.shape
  have hp := dec_pos v.size
  have val : ∀ {j : Nat} {c : UInt8}, L[j]? = some c → j < N → w.cell? ⟨g, off + j, none⟩ = some (.int .u8 (c.toNat : Int)) := fun {j c} hj hlt => by
    rw [hc j hlt, List.getD, hj]; rfl
  refine ⟨by simpa using val h1 (by omega), fun p hpl => ?_, by simpa using val h3 (by omega), fun p hpv => ?_, by omega, hp, fun h0 => ?_, dec_val _⟩
  · have e := h2 p hpl
    rw [List.getElem?_eq_getElem hpl] at e
    have hm := dec_range v.size _ (List.getElem_mem hpl)
    have eg : (Lib.decDigits v.size).getD p 0 = (Lib.decDigits v.size)[p] := by simp [List.getD, List.getElem?_eq_getElem hpl]
    rw [eg]
    exact ⟨val e (by omega), hm⟩
  · have e := h4 p hpv
    have hpl : p < v.data.toList.length := by simpa using hpv
    rw [List.getElem?_eq_getElem hpl] at e
    have eg : v.data.toList.getD p 0 = v.data.toList[p] := by simp [List.getD, List.getElem?_eq_getElem hpl]
    rw [eg, Nat.add_assoc off]
    exact val e (by omega)
  · apply dec_head
    match hd : Lib.decDigits v.size, hp with
    | c :: t, _ =>
      rw [hd] at h0
      simp at h0
      exact ⟨t, by rw [UInt8.toNat_inj.1 (show c.toNat = (48 : UInt8).toNat by simpa using h0)]⟩
theorem Rd.below {w w' : World} {B g off N i : Nat} {v : ByteArray} {D : List UInt8} (h : Rd w g off N i v D) (hb : Below B w w') (hg : g < B) : Rd w' g off N i v D :=
  ⟨(hb.cell (p := ⟨g, _, none⟩) hg).trans h.comma, fun p hp => ⟨(hb.cell (p := ⟨g, _, none⟩) hg).trans (h.digit p hp).1, (h.digit p hp).2⟩, (hb.cell (p := ⟨g, _, none⟩) hg).trans h.colon, fun p hp => (hb.cell (p := ⟨g, _, none⟩) hg).trans (h.body p hp), h.fits, h.pos, h.head, h.value⟩
theorem dval_step (D : List UInt8) (p : Nat) (hp : p < D.length) : dval (D.take (p + 1)) = dval (D.take p) * 10 + ((D.getD p 0).toNat - 48) := by
  rw [List.take_succ_eq_append_getElem hp, dval_snoc]
  simp [List.getD, List.getElem?_eq_getElem hp]
theorem dval_all (D : List UInt8) : dval (D.take D.length) = dval D := by rw [List.take_length]

/-- string(b[lo:lo+n]) where the bytes lie. -/
theorem str_of (w : World) (g off n cap : Nat) (v : ByteArray) (hv : v.size = n) (hc : ∀ p, p < n → w.cell? ⟨g, off + p, none⟩ = some (.int .u8 ((v.data.toList.getD p 0).toNat : Int))) :
    (convert 22 9 (.slice (some ⟨g, off, none⟩) n cap)).run Tryd.prog w = .ok (.string v) w := by
  have := run_convert_bytes_arg (P := Tryd.prog) w 22 5 Tryd.underlying22 Tryd.underlying5 g off n cap (v.data.toList.map fun c => (c.toNat : Int)) (by simpa using hv) (fun p hp => by
    rw [hc p hp]
    have hpl : p < v.data.toList.length := by simp; omega
    simp [List.getD, List.getElem?_eq_getElem hpl]) 9 Tryd.underlying9
  rw [this]
  congr 2
  obtain ⟨⟨l⟩⟩ := v
  simp [strOfNums]
  congr 1
  apply List.ext_getElem?
  intro j
  simp [Function.comp_def]

set_option maxHeartbeats 2000000 in
set_option maxRecDepth 20000 in
theorem decode_any (g off N cap : Nat) (L : List UInt8) (vs : List ByteArray) (w : World) (hN : L.length = N) (hcap : N ≤ cap) (hNm : N ≤ 1099511627776) (hg : g < w.heap.size)
    (hc : ∀ j, j < N → w.cell? ⟨g, off + j, none⟩ = some (.int .u8 ((L.getD j 0).toNat : Int))) (hL : L = enc vs) (hvl : vs.length ≤ 1048576) :
    Calls Tryd.prog 12 #[.slice (some ⟨g, off, none⟩) N cap] w fun e w' => ∃ (av : Option Addr) (cv : Nat), e = .returned (.tuple #[.slice av vs.length cv, .bool true]) ∧ w'.ownsRow w.heap.size 9 1 (.slice av vs.length cv) vs.length (strCells vs) ∧ Below w.heap.size w w' := by
  obtain ⟨i9, hi, hz0, hz1, hz2⟩ := info_parts Tryd.info9
  have hAt : At L 0 (vs.drop 0) := ⟨by omega, by simpa using hL⟩
  have HC : Hid (∀ j, j < N → w.cell? ⟨g, off + j, none⟩ = some (.int .u8 ((L.getD j 0).toNat : Int))) := hc
  have HL : Hid (L.length = N) := hN
  clear hc hL hN
  go_enter Tryd.func12, Tryd.ntmps12
  go_wp2
  go_loopw [4, 5] (fun o i wr => ∃ (k q : Nat) (av : Option Addr) (cv : Nat), k ≤ vs.length ∧ q ≤ N ∧ i = .int .i64 q ∧ o = .slice av k cv ∧ Hid (At L q (vs.drop k)) ∧ wr.ownsRow w.heap.size 9 1 (.slice av k cv) k (strCells (vs.take k)) ∧ Below w.heap.size w wr) (fun _ i _ => N - (intOf i).toNat)
  case atStart => exact ⟨0, 0, none, 0, Nat.zero_le _, Nat.zero_le _, rfl, rfl, hAt, World.ownsRow_nil _ _ _ _, Below.refl _ _⟩
  case round =>
    clear hAt
    obtain ⟨k, q, av, cv, hk, hq, rfl, rfl, HA, hown, hbel⟩ := hrel
    by_cases hlt : q < N
    · obtain ⟨v, r, hvr⟩ := HA.out.more (by rw [HL.out]; exact hlt)
      have hA2 : At L q (v :: r) := by rw [← hvr]; exact HA.out
      have hrd := (rd_of HL.out HC.out hA2).below hbel hg
      have hnext := hA2.shape.2.2.2.2.2
      obtain ⟨hst, hdr, hkl⟩ := strCells_take hvr
      have HST : Hid (strCells (vs.take (k + 1)) = strCells (vs.take k) ++ [.string v]) := hst
      have HNX : Hid (At L (q + 2 + (Lib.decDigits v.size).length + v.size) (vs.drop (k + 1))) := by rw [hdr]; exact hnext
      clear hvr hA2 hst hdr hnext HA
      obtain ⟨D, hD⟩ : ∃ D, D = Lib.decDigits v.size := ⟨_, rfl⟩
      rw [← hD] at hrd HNX
      clear hD
      obtain ⟨dl, hdl⟩ : ∃ dl, dl = D.length := ⟨_, rfl⟩
      have HDL : Hid (dl = D.length) := hdl
      have hfit := hrd.fits
      have hpos := hrd.pos
      have hcolon := hrd.colon
      rw [← hdl] at hfit hpos hcolon HNX
      have hcomma := hrd.comma
      clear hdl
      have HRD : Hid (Rd wr g off N q v D) := hrd
      clear hrd
      have hqi : (q : Int) < (N : Int) := by omega
      go_wp2
      go_loop [5, 7] (fun i z => ∃ (p n : Nat), p ≤ dl ∧ n ≤ v.size ∧ i = .int .i64 ((q : Int) + 1 + (p : Int)) ∧ z = .int .i64 n ∧ Hid (n = dval (D.take p))) (fun i _ => (q + 1 + dl) - (intOf i).toNat)
      case atStart => exact ⟨0, 0, Nat.zero_le _, Nat.zero_le _, by go_num, rfl, rfl⟩
      case round =>
        obtain ⟨p, n, hp, hn, rfl, rfl, HN⟩ := hrel
        by_cases hpl : p < dl
        · obtain ⟨c, hc0, hc1, hc2, hcc⟩ : ∃ c : Nat, wr.cell? ⟨g, off + (q + 1 + p), none⟩ = some (.int .u8 (c : Int)) ∧ 48 ≤ c ∧ c ≤ 57 ∧ c = (D.getD p 0).toNat := by
            obtain ⟨d1, d2, d3⟩ := HRD.out.digit p (by rw [← HDL.out]; exact hpl)
            exact ⟨_, d1, d2, d3, rfl⟩
          have HCC : Hid (c = (D.getD p 0).toNat) := hcc
          clear hcc
          have hst : n * 10 + (c - 48) ≤ v.size ∧ Hid (n * 10 + (c - 48) = dval (D.take (p + 1))) := by
            have e := dval_step D p (by rw [← HDL.out]; exact hpl)
            rw [← HN.out, ← HCC.out] at e
            refine ⟨?_, e.symm⟩
            rw [← e, ← HRD.out.value]
            exact dval_take_le _ _
          obtain ⟨hst1, hst2⟩ := hst
          go_wp2
          go_round
          case rel => exact ⟨p + 1, n * 10 + (c - 48), by omega, hst1, by go_num, by go_num, hst2⟩
          case measure => simp [intOf]; omega
        · obtain rfl : p = dl := by omega
          obtain rfl : n = v.size := by rw [HN.out, HDL.out, dval_all, HRD.out.value]
          clear HN hn hp hpl
          obtain ⟨c, hc0, hc1, hc2, hch⟩ : ∃ c : Nat, wr.cell? ⟨g, off + (q + 1), none⟩ = some (.int .u8 (c : Int)) ∧ 48 ≤ c ∧ c ≤ 57 ∧ (c = 48 → p ≤ 1) := by
            obtain ⟨d1, d2, d3⟩ := HRD.out.digit 0 (by rw [← HDL.out]; exact hpos)
            exact ⟨_, by simpa using d1, d2, d3, fun e => by rw [HDL.out, HRD.out.head e]; exact Nat.le_refl _⟩
          have hbody := HRD.out.body
          rw [← HDL.out] at hbody
          obtain ⟨A, hA, hcv⟩ : ∃ A : Addr, (if cap = q + 1 + p + 1 then some (⟨g, off, none⟩ : Addr) else some ⟨g, off + (q + 1 + p + 1), none⟩) = some A ∧ (convert 22 9 (.slice (some A) v.size (cap - (q + 1 + p + 1)))).run Tryd.prog wr = .ok (.string v) wr := by
            by_cases hcl : cap = q + 1 + p + 1
            · exact ⟨_, by rw [if_pos hcl], str_of wr g off v.size _ v rfl (fun p' hp' => absurd hp' (by omega))⟩
            · refine ⟨_, by rw [if_neg hcl], str_of wr g _ v.size _ v rfl (fun p' hp' => ?_)⟩
              have := hbody p' hp'
              rwa [show off + (q + 2 + p) + p' = off + (q + 1 + p + 1) + p' by omega] at this
          clear hbody
          rcases (show (c = 48 ∧ p ≤ 1) ∨ c ≠ 48 from by by_cases e : c = 48; exact .inl ⟨e, hch e⟩; exact .inr e) with ⟨h48, hp1⟩ | h48
          · have hb48 : ((c : Int) == 48) = true := by simp; omega
            clear h48 hch
            go_wp2_with (at_builtin; refine wpList_append_own _ rfl (.tmp 86) (.tmp 94) 23 rfl w.heap.size 9 i9 (.string ByteArray.empty) 1 16 Tryd.underlying23 hi hz0 hz1 hz2 rfl (by decide) _ _ _ rfl (hown.alloc _) ⟨wr.heap.size, 0, none⟩ 1 1 [.string v] rfl rfl (cell_one_new _ _ _) (by intro u hu; simp at hu; subst hu; rfl) (by unfold maxLen; omega) (by omega) (by have := hbel.size; simp; omega) ?_; intro v' w2 hown2 hgr2 _)
            all_goals
              have hb2 : Below w.heap.size w w2 := (hbel.alloc hbel.size _).grown hgr2 (by have := hbel.size; simp; omega) (fun q hq => (hown.lt q hq).1)
              obtain ⟨av', cv', hv'⟩ := own_shape hown2
              go_roundw
              case rel => exact ⟨k + 1, q + 2 + p + v.size, av', cv', hkl, hfit, by go_num, hv', HNX, by rw [HST.out, ← hv']; exact hown2, hb2⟩
              case measure => simp [intOf]; omega
          · have hb48 : ((c : Int) == 48) = false := by simp; omega
            clear h48 hch
            go_wp2_with (at_builtin; refine wpList_append_own _ rfl (.tmp 86) (.tmp 94) 23 rfl w.heap.size 9 i9 (.string ByteArray.empty) 1 16 Tryd.underlying23 hi hz0 hz1 hz2 rfl (by decide) _ _ _ rfl (hown.alloc _) ⟨wr.heap.size, 0, none⟩ 1 1 [.string v] rfl rfl (cell_one_new _ _ _) (by intro u hu; simp at hu; subst hu; rfl) (by unfold maxLen; omega) (by omega) (by have := hbel.size; simp; omega) ?_; intro v' w2 hown2 hgr2 _)
            all_goals
              have hb2 : Below w.heap.size w w2 := (hbel.alloc hbel.size _).grown hgr2 (by have := hbel.size; simp; omega) (fun q hq => (hown.lt q hq).1)
              obtain ⟨av', cv', hv'⟩ := own_shape hown2
              go_roundw
              case rel => exact ⟨k + 1, q + 2 + p + v.size, av', cv', hkl, hfit, by go_num, hv', HNX, by rw [HST.out, ← hv']; exact hown2, hb2⟩
              case measure => simp [intOf]; omega
    · have hnil := HA.out.end_ (by rw [HL.out]; exact hlt)
      have hkk : k = vs.length := by
        have := congrArg List.length hnil
        simp at this
        omega
      subst hkk
      rw [List.take_length] at hown
      clear HA hnil
      go_wp2
      go_ret2
      exact ⟨av, cv, rfl, hown, hbel⟩
end Go.Proofs.Qxb6627736aDoor
