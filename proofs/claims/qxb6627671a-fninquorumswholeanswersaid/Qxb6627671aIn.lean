/- THE WALK OF (Domain).In. -/
import Derived.Test.Qxb6627671aSort
namespace Go.Proofs.Qxb6627671a
open Go.RowKit

/-- A slice that the call itself made has a slice's shape. -/
theorem own_shape {w : World} {base e size : Nat} {v : Value} {n : Nat} {xs : List Value} (h : w.ownsRow base e size v n xs) : ∃ av cv, v = .slice av n cv := by
  rcases h.2 with ⟨rfl, rfl⟩ | ⟨g, cap, _, rfl, _⟩
  · exact ⟨none, 0, rfl⟩
  · exact ⟨_, _, rfl⟩
theorem grown_of_below {w w' : World} (h : Below w.heap.size w w') : w.grownBy w' none := ⟨h.os, h.tape, h.output, h.size, fun k hk _ => h.block k hk⟩
theorem own_below {w w' : World} {base e size : Nat} {v : Value} {n : Nat} {xs : List Value} (h : w.ownsRow base e size v n xs) (hb : Below w.heap.size w w') : w'.ownsRow base e size v n xs := by
  rcases hv : v.ownBlock with _ | k
  · exact h.kept (grown_of_below hb) (.inl hv)
  · exact h.kept (grown_of_below hb) (.inr (by simp [hv]))
def strCells (l : List ByteArray) : List Value := l.map Value.string
theorem strCells_snoc (l : List ByteArray) (s : ByteArray) : strCells (l ++ [s]) = strCells l ++ [.string s] := by simp [strCells]

/-- What In reckons: the two quorums. -/
structure Quo (rq wt n r k : Int) : Prop where
  r1 : r ≤ rq
  r2 : r ≤ n
  r3 : r = rq ∨ r = n
  k1 : n + 1 - r ≤ k
  k2 : n / 2 + 1 ≤ k
  k3 : wt ≤ k
  k4 : k = n + 1 - r ∨ k = n / 2 + 1 ∨ k = wt

theorem own_mono {w : World} {B B' e size : Nat} {v : Value} {n : Nat} {xs : List Value} (h : w.ownsRow B e size v n xs) (hB : B' ≤ B) : w.ownsRow B' e size v n xs := by
  refine ⟨h.1, ?_⟩
  rcases h.2 with h2 | ⟨g, cap, cur, hv, hg, r⟩
  · exact .inl h2
  · exact .inr ⟨g, cap, cur, hv, Nat.le_trans hB hg, r⟩
theorem own_five {w : World} {B e size : Nat} {v : Value} {n : Nat} {xs : List Value} {N : Nat} {x0 x1 x2 x3 x4 : Value} (h : w.ownsRow B e size v n xs) (hN : N < B) :
    (((((w.setCell ⟨N, 0, none⟩ x0).setCell ⟨N, 1, none⟩ x1).setCell ⟨N, 2, none⟩ x2).setCell ⟨N, 3, none⟩ x3).setCell ⟨N, 4, none⟩ x4).ownsRow B e size v n xs :=
  ownsRow_setCell_below (ownsRow_setCell_below (ownsRow_setCell_below (ownsRow_setCell_below (ownsRow_setCell_below h hN _) hN _) hN _) hN _) hN _
theorem below_five {w W : World} {B N : Nat} {x0 x1 x2 x3 x4 : Value} (h : Below B W w) (hN : B ≤ N) :
    Below B W (((((w.setCell ⟨N, 0, none⟩ x0).setCell ⟨N, 1, none⟩ x1).setCell ⟨N, 2, none⟩ x2).setCell ⟨N, 3, none⟩ x3).setCell ⟨N, 4, none⟩ x4) :=
  ((((h.setCell hN _).setCell hN _).setCell hN _).setCell hN _).setCell hN _
theorem step_yes {w : World} {B : Nat} {F : Nat → ByteArray} {p : ByteArray → Bool} {k : Nat} {v' : Value} (hown : w.ownsRow B 9 1 v' ((kept F p k).length + 1) (strCells (kept F p k) ++ [.string (F k)])) (hf : p (F k) = true) :
    ∃ av cv, v' = .slice av (kept F p (k + 1)).length cv ∧ w.ownsRow B 9 1 (.slice av (kept F p (k + 1)).length cv) (kept F p (k + 1)).length (strCells (kept F p (k + 1))) := by
  rw [kept_yes F p k hf, strCells_snoc, List.length_append, List.length_singleton]
  obtain ⟨av, cv, rfl⟩ := own_shape hown
  exact ⟨av, cv, rfl, hown⟩

set_option maxHeartbeats 1000000 in
theorem in_any (s0 s1 s8 : ByteArray) (ao : Option Addr) (len cap b off : Nat) (F : Nat → ByteArray) (ao' : Option Addr) (len' cap' b' off' : Nat) (G : Nat → ByteArray) (rt wt rq vn : Int) (rc : Bool) (w : World)
    (hm : len ≤ 4096) (hr : Strs w ao len b off F) (hm' : len' ≤ 4096) (hr' : Strs w ao' len' b' off' G) (hrq : -1073741824 ≤ rq) (hrq1 : rq ≤ 9223372036854775807) :
    Calls Try.prog 7 #[.agg #[.string s0, .string s1, .slice ao len cap, .int .i64 rt, .int .i64 wt, .int .i64 rq, .bool rc], .agg #[.int .u64 vn, .string s8, .slice ao' len' cap']] w fun e w' =>
      ∃ (av : Option Addr) (cv : Nat) (r k : Int), e = .returned (.agg #[.slice av (kept F (hasB G len') len).length cv, .bool (decide (rt ≤ (kept F (hasB G len') len).length)), .bool (decide (wt ≤ (kept F (hasB G len') len).length)), .int .i64 r, .int .i64 k])
        ∧ Quo rq wt (kept F (hasB G len') len).length r k ∧ w'.ownsRow w.heap.size 9 1 (.slice av (kept F (hasB G len') len).length cv) (kept F (hasB G len') len).length (strCells (kept F (hasB G len') len)) ∧ Below w.heap.size w w' := by
  obtain ⟨i0, hi, hz0, hz1, hz2⟩ := info_parts Try.info9
  obtain ⟨p, hp⟩ : ∃ p, p = hasB G len' := ⟨_, rfl⟩
  rw [← hp]
  have HP : Hid (∀ x, hasB G len' x = p x) := fun x => by rw [hp]
  clear hp
  go_enter Try.func7, Try.ntmps7
  go_wp2
  obtain ⟨W0, hW0⟩ : ∃ W0, W0 = ((w.alloc (.cells #[.string s0, .string s1, .slice ao len cap, .int .i64 rt, .int .i64 wt, .int .i64 rq, .bool rc] 28)).alloc (.cells #[.int .u64 vn, .string s8, .slice ao' len' cap'] 32)).alloc (.cells #[.slice none 0 0, .bool false, .bool false, .int .i64 0, .int .i64 0] 34) := ⟨_, rfl⟩
  have hsz : W0.heap.size = w.heap.size + 3 := by rw [hW0]; simp
  have hbW : Below w.heap.size w W0 := by rw [hW0]; go_grown
  have hcl : ∀ wr, Below W0.heap.size W0 wr → wr.cell? ⟨w.heap.size, 3, none⟩ = some (.int .i64 rt) ∧ wr.cell? ⟨w.heap.size, 4, none⟩ = some (.int .i64 wt) ∧ wr.cell? ⟨w.heap.size, 5, none⟩ = some (.int .i64 rq) ∧ wr.cell? ⟨w.heap.size + 1, 2, none⟩ = some (.slice ao' len' cap') := by
    intro wr h
    have f := fun o => h.cell (p := ⟨w.heap.size, o, none⟩) (by rw [hsz]; simp)
    have f2 := h.cell (p := ⟨w.heap.size + 1, 2, none⟩) (by rw [hsz]; simp)
    rw [f 3, f 4, f 5, f2, hW0]
    simp [go_sem]
  have hcr : ∀ wr, Below W0.heap.size W0 wr → (wr.cell? ⟨w.heap.size + 1 + 1, 0, none⟩ = some (.slice none 0 0) ∧ wr.cell? ⟨w.heap.size + 1 + 1, 1, none⟩ = some (.bool false) ∧ wr.cell? ⟨w.heap.size + 1 + 1, 2, none⟩ = some (.bool false) ∧ wr.cell? ⟨w.heap.size + 1 + 1, 3, none⟩ = some (.int .i64 0) ∧ wr.cell? ⟨w.heap.size + 1 + 1, 4, none⟩ = some (.int .i64 0)) ∧ (∀ o, wr.frozen? ⟨w.heap.size + 1 + 1, o, none⟩ = false) := by
    intro wr h
    have f := fun o => h.cell (p := ⟨w.heap.size + 1 + 1, o, none⟩) (by rw [hsz]; simp)
    have f2 := fun o => h.frozen (p := ⟨w.heap.size + 1 + 1, o, none⟩) (by rw [hsz]; simp)
    rw [f 0, f 1, f 2, f 3, f 4, hW0]
    refine ⟨by simp [go_sem], fun o => ?_⟩
    rw [f2 o, hW0]
    simp [go_sem]
  rw [← hW0]
  clear hW0
  go_loopw [5, 13] (fun v i wr => ∃ (k : Nat) (av : Option Addr) (cv : Nat), k ≤ len ∧ i = .int .i64 k ∧ v = .slice av (kept F p k).length cv ∧ wr.ownsRow W0.heap.size 9 1 (.slice av (kept F p k).length cv) (kept F p k).length (strCells (kept F p k)) ∧ Below W0.heap.size W0 wr) (fun _ i _ => len - (intOf i).toNat)
  case atStart => exact ⟨0, none, 0, Nat.zero_le _, rfl, rfl, World.ownsRow_nil _ _ _ _, Below.refl _ _⟩
  case round =>
    obtain ⟨k, av, cv, hk, rfl, rfl, hown, hbel⟩ := hrel
    have hkl := kept_le F p k
    have hbw : Below w.heap.size w wr := hbW.trans (hbel.mono hbW.size)
    obtain ⟨d3, d4, d5, d6⟩ := hcl wr hbel
    by_cases hlt : k < len
    · have hix := hr.idx cap hlt
      have c0 := (hr.below hbw).cell_ k hlt
      cases hf : p (F k) with
      | true =>
        go_wp2_with (first
          | (go_at_call 11; refine (contains_any _ _ _ _ _ _ _ _ (by omega) (hr'.below hbw)).mono ?_; rintro e w1 ⟨rfl, rfl⟩; rw [HP.out, hf])
          | (at_builtin; refine wpList_append_own _ rfl (.tmp 21) (.tmp 23) 22 rfl W0.heap.size 9 i0 (.string ByteArray.empty) 1 16 Try.underlying22 hi hz0 hz1 hz2 rfl (by decide) _ _ _ rfl (hown.alloc _) ⟨wr.heap.size, 0, none⟩ 1 1 [.string (F k)] rfl rfl (cell_one_new _ _ _) (by intro u hu; simp at hu; subst hu; rfl) (by unfold maxLen; omega) (by omega) (by have := hbel.size; simp; omega) ?_; intro v' w2 hown2 hgr2 _))
        obtain ⟨av', cv', hv', hown3⟩ := step_yes hown2 hf
        have hb2 : Below W0.heap.size W0 w2 := (hbel.alloc hbel.size _).grown hgr2 (by have := hbel.size; simp; omega) (fun q hq => (hown.lt q hq).1)
        go_roundw
        case rel => exact ⟨k + 1, av', cv', by omega, by go_num, hv', hown3, hb2⟩
        case measure => simp [intOf]; omega
      | false =>
        go_wp2_with (first
          | (go_at_call 11; refine (contains_any _ _ _ _ _ _ _ _ (by omega) (hr'.below hbw)).mono ?_; rintro e w1 ⟨rfl, rfl⟩; rw [HP.out, hf]))
        go_roundw
        case rel => exact ⟨k + 1, av, cv, by omega, by go_num, by rw [kept_no F p k hf], by rw [kept_no F p k hf]; exact hown, hbel⟩
        case measure => simp [intOf]; omega
    · obtain rfl : k = len := by omega
      obtain ⟨⟨q0, q1, q2, q3, q4⟩, qf⟩ := hcr wr hbel
      have qf0 := qf 0
      have qf1 := qf 1
      have qf2 := qf 2
      have qf3 := qf 3
      have qf4 := qf 4
      obtain ⟨n, hn⟩ : ∃ n, n = (kept F p k).length := ⟨_, rfl⟩
      rw [← hn] at hown hkl ⊢
      have HN : Hid (n = (kept F p k).length) := hn
      clear hn qf
      go_wp2
      all_goals
        refine bodyPost_ret (by simp [results, Try.results7, go_sem, q0, q1, q2, q3, q4]; rfl) rfl ?_
        rw [← HN.out]
        refine ⟨av, cv, _, _, rfl, ⟨?_, ?_, ?_, ?_, ?_, ?_, ?_⟩, own_mono (own_five hown (by omega)) (by omega), below_five hbw (by omega)⟩ <;> omega
end Go.Proofs.Qxb6627671a
