/- THE WALK OF appendRuleKey AND ZZappendRuleKey. -/
import Derived.Test.Qxb6627736aDoorClone
import Derived.Test.Qxb6627736aDoorShelf
import Derived.Lib.AppendStr
import Derived.Lib.AppendIntMem
namespace Go.Proofs.Qxb6627736aDoor
open Go.RowKit

abbrev PowIs (B : Nat) (w : World) : Prop := Lib.TabBelow Tryd.prog B w Tryd.powName .u64 Lib.pow10Tab
theorem PowIs.up {B B' : Nat} {w w' : World} (h : PowIs B w) (hb : Below B w w') (hB : B ≤ B') : PowIs B' w' := fun w2 h2 => h w2 (hb.trans (h2.mono hB))

theorem byteCells_append (a b : List UInt8) : Lib.byteCells (a ++ b) = Lib.byteCells a ++ Lib.byteCells b := by simp [Lib.byteCells]
theorem take_succ_get {vs : List ByteArray} {k : Nat} (h : k < vs.length) : vs.take (k + 1) = vs.take k ++ [vs.getD k ByteArray.empty] := by
  rw [List.take_succ_eq_append_getElem h]
  simp [List.getD, List.getElem?_eq_getElem h]

/-- The key after k values. -/
def keyN (p : List UInt8) (vs : List ByteArray) (k : Nat) : List UInt8 := p ++ enc (vs.take k)
theorem keyN_zero (p : List UInt8) (vs : List ByteArray) : keyN p vs 0 = p := by simp [keyN, enc_nil]
theorem keyN_all (p : List UInt8) (vs : List ByteArray) : keyN p vs vs.length = p ++ enc vs := by simp [keyN]
theorem keyN_succ (p : List UInt8) (vs : List ByteArray) (k : Nat) (h : k < vs.length) : keyN p vs (k + 1) = keyN p vs k ++ rec1 (vs.getD k ByteArray.empty) := by
  rw [keyN, take_succ_get h, enc_snoc, keyN, List.append_assoc]
theorem keyN_le (p : List UInt8) (vs : List ByteArray) (k : Nat) : (keyN p vs k).length ≤ (p ++ enc vs).length := by
  have e : enc vs = enc (vs.take k) ++ enc (vs.drop k) := by rw [← enc_append, List.take_append_drop]
  rw [keyN, e]
  simp
/-- What the round's four appends lay is the next key. -/
theorem key_cells (p : List UInt8) (vs : List ByteArray) (k : Nat) (h : k < vs.length) (s : ByteArray) (hs : s = vs.getD k ByteArray.empty) :
    (((Lib.byteCells (keyN p vs k) ++ [.int .u8 44]) ++ Lib.byteCells (Lib.itoa (s.size : Int))) ++ [.int .u8 58]) ++ Lib.strCells s = Lib.byteCells (keyN p vs (k + 1)) ∧
    (keyN p vs k).length + 1 + (Lib.itoa (s.size : Int)).length + 1 + s.size = (keyN p vs (k + 1)).length := by
  have e : Lib.itoa (s.size : Int) = Lib.decDigits s.size := by unfold Lib.itoa; rw [if_neg (by omega)]; simp
  rw [keyN_succ p vs k h, ← hs, e]
  refine ⟨?_, by rw [List.length_append, rec1_length]; omega⟩
  rw [byteCells_append]
  simp [Lib.byteCells, Lib.strCells, rec1]

/-- The box that was laid last stays while an older row is written. -/
theorem box_kept {w w1 : World} {row : Option Nat} {ty : ByteArray} {v : Value} (hg : (w.alloc (.cells #[.string ty, v] 40)).grownBy w1 row) (hrow : ∀ q, row = some q → q < w.heap.size) : w1.cell? ⟨w.heap.size, 1, none⟩ = some v := by
  rw [World.cell?_of_block (w := w.alloc (.cells #[.string ty, v] 40)) (hg.block w.heap.size (by simp) (fun e => by have := hrow _ e.symm; omega))]
  simp [go_sem]

set_option maxHeartbeats 1000000 in
theorem appendKey_any (B n : Nat) (sv : Value) (l : List UInt8) (ty : ByteArray) (ao : Option Addr) (len cap b off : Nat) (vs : List ByteArray) (w : World) (hn : l.length = n) (hown : w.ownsRow B 5 1 sv n (Lib.byteCells l)) (hBw : B ≤ w.heap.size)
    (hvs : vs.length = len) (hr : Strs w ao len b off (fun i => vs.getD i ByteArray.empty)) (hbB : 0 < len → b < B) (hlim : (l ++ ty.data.toList ++ enc vs).length ≤ 1099511627776) (hl2 : len ≤ 1048576) (hsz : ∀ v ∈ vs, v.size ≤ 1048576) (htab : PowIs B w) :
    Calls Tryd.prog 17 #[sv, .agg #[.string ty, .slice ao len cap]] w fun e w' => ∃ v', e = .returned v' ∧ w'.ownsRow B 5 1 v' (l ++ ty.data.toList ++ enc vs).length (Lib.byteCells (l ++ ty.data.toList ++ enc vs)) ∧ Below B w w' := by
  obtain ⟨i5, hi, hz0, hz1, hz2⟩ := info_parts Tryd.info5
  have hty : ty.data.toList.length = ty.size := by simp
  have hlim2 : n + ty.size ≤ 1099511627776 := by simp only [List.length_append] at hlim; omega
  obtain ⟨p, hp⟩ : ∃ p, p = l ++ ty.data.toList := ⟨_, rfl⟩
  rw [← hp] at hlim ⊢
  have HP : Hid (p = l ++ ty.data.toList) := hp
  clear hp
  have HSZ : Hid (∀ v ∈ vs, v.size ≤ 1048576) := hsz
  clear hsz
  have hbl := (Below.refl B w).alloc hBw (.cells #[.string ty, .slice ao len cap] 40)
  have hown1 := hown.alloc (.cells #[.string ty, .slice ao len cap] 40)
  have hlt1 := fun q hq => (hown.lt q hq).1
  have hlt2 := fun q hq => (hown.lt q hq).2
  have HLT : Hid _ := hlt1
  have HLT2 : Hid _ := hlt2
  clear hlt1 hlt2 hown
  go_enter Tryd.func17, Tryd.ntmps17
  go_wp2_with (at_builtin; refine Lib.wpList_append_own_string _ rfl (.tmp 7) (.tmp 9) 22 9 rfl B 5 i5 Tryd.underlying22 Tryd.underlying9 hi hz0 hz1 hz2 sv n _ rfl hown1 ty rfl (by unfold maxLen; omega) (by omega) (by simp; omega) ?_; intro v1 w1 hown2 hgr2 _; replace hbl := hbl.grown hgr2 (by simp; omega) HLT.out; have hbx := box_kept hgr2 HLT2.out)
  clear hbx hgr2 HLT HLT2 hown1
  have hownP : w1.ownsRow B 5 1 v1 (keyN p vs 0).length (Lib.byteCells (keyN p vs 0)) := by
    rw [keyN_zero, HP.out, byteCells_append, List.length_append, hty, hn]
    exact hown2
  clear hown2 hlim2 HP
  go_loopw [0, 14] (fun v i wr => ∃ (k : Nat), k ≤ len ∧ i = .int .i64 k ∧ wr.ownsRow B 5 1 v (keyN p vs k).length (Lib.byteCells (keyN p vs k)) ∧ Below B w wr) (fun _ i _ => len - (intOf i).toNat)
  case atStart => exact ⟨0, Nat.zero_le _, rfl, hownP, hbl⟩
  case round =>
    clear hownP hbl
    obtain ⟨k, hk, rfl, hown, hbel⟩ := hrel
    have hkl := keyN_le p vs k
    by_cases hlt : k < len
    · have hix := hr.idx cap hlt
      obtain ⟨s, hs, hs2, c0⟩ : ∃ s, s = vs.getD k ByteArray.empty ∧ s.size ≤ 1048576 ∧ wr.cell? ⟨b, off + k, none⟩ = some (.string s) := ⟨_, rfl, HSZ.out _ (by simp [List.getD, List.getElem?_eq_getElem (show k < vs.length by omega)]), (hr.below hbel hbB).cell_ k hlt⟩
      have HS : Hid (s = vs.getD k ByteArray.empty) := hs
      clear hs
      obtain ⟨m, hm⟩ : ∃ m, m = (keyN p vs k).length := ⟨_, rfl⟩
      rw [← hm] at hown hkl
      have HM : Hid (m = (keyN p vs k).length) := hm
      clear hm
      have hbig := hbel.size
      go_wp2_with (first
        | (at_builtin; refine wpList_append_own _ rfl (.tmp 18) (.tmp 19) 22 rfl B 5 i5 (.int .u8 0) 1 1 Tryd.underlying22 hi hz0 hz1 hz2 rfl (by decide) _ _ _ rfl (hown.alloc _) ⟨wr.heap.size, 0, none⟩ 1 1 [.int .u8 44] rfl rfl (cell_one_new _ _ _) (by intro u hu; simp at hu; subst hu; rfl) (by unfold maxLen; omega) (by omega) (by simp; omega) ?_; intro v2 w2 hown2 hgr2 _; have hb2 := (hbel.alloc (by omega) _).grown hgr2 (by simp; omega) (fun q hq => (hown.lt q hq).1)))
      have hz2' := hb2.size
      refine (Tryd.strconv_AppendInt_10 B (m + 1) (s.size : Int) (by omega) (by omega) v2 _ w2 hown2 (by omega) (by omega) (htab.on hb2)).mono ?_
      rintro e w3 ⟨v3, rfl, hown3, hb3, _⟩
      have hd : (Lib.itoa (s.size : Int)).length ≤ 20 := by
        have e : Lib.itoa (s.size : Int) = Lib.decDigits s.size := by unfold Lib.itoa; rw [if_neg (by omega)]; simp
        rw [e]
        exact dec_le 19 s.size (by omega)
      obtain ⟨dl, hdl⟩ : ∃ dl, dl = (Lib.itoa (s.size : Int)).length := ⟨_, rfl⟩
      rw [← hdl] at hown3 hd
      have HDL : Hid (dl = (Lib.itoa (s.size : Int)).length) := hdl
      clear hdl
      have hb3' := hb2.trans hb3
      have hz3' := hb3'.size
      clear hown hgr2 hown2 hb2 hb3
      go_wp2_with (first
        | (at_builtin; refine wpList_append_own _ rfl (.tmp 24) (.tmp 25) 22 rfl B 5 i5 (.int .u8 0) 1 1 Tryd.underlying22 hi hz0 hz1 hz2 rfl (by decide) _ _ _ rfl (hown3.alloc _) ⟨w3.heap.size, 0, none⟩ 1 1 [.int .u8 58] rfl rfl (cell_one_new _ _ _) (by intro u hu; simp at hu; subst hu; rfl) (by unfold maxLen; omega) (by omega) (by simp; omega) ?_; intro v4 w4 hown4 hgr4 _; have hb4 := (hb3'.alloc (by omega) _).grown hgr4 (by simp; omega) (fun q hq => (hown3.lt q hq).1); have hz4 := hb4.size)
        | (at_builtin; refine Lib.wpList_append_own_string _ rfl (.tmp 26) (.tmp 27) 22 9 rfl B 5 i5 Tryd.underlying22 Tryd.underlying9 hi hz0 hz1 hz2 v4 _ _ rfl hown4 s rfl (by unfold maxLen; omega) (by omega) (by omega) ?_; intro v5 w5 hown5 hgr5 _; have hb5 := hb4.grown hgr5 (by omega) (fun q hq => (hown4.lt q hq).1)))
      have hfin := key_cells p vs k (by omega) s HS.out
      rw [hfin.1, HM.out, HDL.out, hfin.2] at hown5
      go_roundw
      case rel => exact ⟨k + 1, by omega, by go_num, hown5, hb5⟩
      case measure => simp [intOf]; omega
    · obtain rfl : k = len := by omega
      subst hvs
      rw [keyN_all] at hown
      go_wp2
      go_ret
      exact ⟨_, rfl, hown, hbel⟩

set_option maxHeartbeats 400000 in
/-- The exported door hands it on. -/
theorem zzKey_any (B n : Nat) (sv : Value) (l : List UInt8) (ty : ByteArray) (ao : Option Addr) (len cap b off : Nat) (vs : List ByteArray) (w : World) (hn : l.length = n) (hown : w.ownsRow B 5 1 sv n (Lib.byteCells l)) (hBw : B ≤ w.heap.size)
    (hvs : vs.length = len) (hr : Strs w ao len b off (fun i => vs.getD i ByteArray.empty)) (hbB : 0 < len → b < B) (hlim : (l ++ ty.data.toList ++ enc vs).length ≤ 1099511627776) (hl2 : len ≤ 1048576) (hsz : ∀ v ∈ vs, v.size ≤ 1048576) (htab : PowIs B w) :
    Calls Tryd.prog 10 #[sv, .string ty, .slice ao len cap] w fun e w' => ∃ v', e = .returned v' ∧ w'.ownsRow B 5 1 v' (l ++ ty.data.toList ++ enc vs).length (Lib.byteCells (l ++ ty.data.toList ++ enc vs)) ∧ Below B w w' := by
  go_enter Tryd.func10, Tryd.ntmps10
  go_wp2_with fail
  refine (appendKey_any B n sv l ty ao len cap b off vs w hn hown hBw hvs hr hbB hlim hl2 hsz htab).mono ?_
  rintro e w2 ⟨v', rfl, hown2, hb2⟩
  go_wp2
  go_ret
  exact ⟨_, rfl, hown2, hb2⟩
end Go.Proofs.Qxb6627736aDoor
