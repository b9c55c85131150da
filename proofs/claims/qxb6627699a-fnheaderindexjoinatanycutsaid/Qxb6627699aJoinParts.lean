/- FnHeaderIndexJoinAtAnyCut: what the walk wants, outside the walk. -/
import Derived.Test.Qxb6627699aWalks
namespace Go.Proofs.Qxb6627699a
open Go.RowKit

/-- It returned a bool; where that is true, P. -/
def RetZ (e : Ending) (P : Prop) : Prop := ∃ b : Bool, e = .returned (.bool b) ∧ (b = true → P)

set_option maxHeartbeats 400000 in
set_option maxRecDepth 20000 in
theorem zzJoin_tells (ao : Option Addr) (len cap b off : Nat) (f : Nat → Fld) (ao' : Option Addr) (len' cap' b' off' : Nat) (f' : Nat → Fld) (s2 : ByteArray) (w : World) (hm : len ≤ 9223372036854775807) (hr : Flds w ao len b off f) (hm' : len' ≤ 9223372036854775807) (hr' : Flds w ao' len' b' off' f') :
    Calls Try.prog 5 #[.slice ao len cap, .slice ao' len' cap', .string s2] w fun e w' => RetZ e (∀ i, i < len → (f i).nm.size ≤ 1048576) ∧ w = w' := by
  go_enter Try.func5, Try.ntmps5
  go_wp2
  all_goals try (go_ret; exact ⟨⟨_, rfl, fun h => by cases h⟩, rfl⟩)
  go_loop [7, 8] (fun z i => ∃ (k : Nat) (n : Int), k ≤ len ∧ 0 ≤ n ∧ n ≤ 1048576 ∧ i = .int .i64 k ∧ z = .int .i64 n ∧ Hid (∀ i, i < k → (f i).nm.size ≤ 1048576)) (fun _ i => len - (intOf i).toNat)
  case atStart => exact ⟨0, len, Nat.zero_le _, by omega, by omega, rfl, rfl, fun i h => absurd h (by omega)⟩
  case round =>
    obtain ⟨k, n, hk, hn0, hn1, rfl, rfl, HB⟩ := hrel
    by_cases hlt : k < len
    · have hix := hr.idx cap hlt
      obtain ⟨s, hs, c0⟩ : ∃ s, s = (f k).nm ∧ w.cell? ⟨b, off + k * 4, none⟩ = some (.string s) := ⟨_, rfl, (hr.cells hlt).1⟩
      have HS : Hid (s = (f k).nm) := hs
      clear hs
      go_wp2
      all_goals first
        | (go_ret; exact ⟨⟨_, rfl, fun h => by cases h⟩, rfl⟩)
        | (go_round
           case rel =>
             refine ⟨k + 1, _, by omega, ?_, ?_, by go_num, rfl, fun i hi => ?_⟩
             · omega
             · omega
             · by_cases e : i = k
               · subst e; rw [← HS.out]; omega
               · exact HB.out i (by omega)
           case measure => simp [intOf]; omega)
    · obtain rfl : k = len := by omega
      go_wp2
      all_goals try (go_ret; exact ⟨⟨_, rfl, fun h => by cases h⟩, rfl⟩)
      go_loop [7, 9] (fun z i => ∃ (k : Nat) (n : Int), k ≤ len' ∧ 0 ≤ n ∧ n ≤ 1048576 ∧ i = .int .i64 k ∧ z = .int .i64 n) (fun _ i => len' - (intOf i).toNat)
      case atStart => exact ⟨0, _, Nat.zero_le _, by omega, by assumption, rfl, rfl⟩
      case round =>
        obtain ⟨j, n, hk, hn0, hn1, rfl, rfl⟩ := hrel
        by_cases hlt : j < len'
        · have hix := hr'.idx cap' hlt
          obtain ⟨s, c0⟩ : ∃ s, w.cell? ⟨b', off' + j * 4, none⟩ = some (.string s) := ⟨_, (hr'.cells hlt).1⟩
          go_wp2
          all_goals first
            | (go_ret; exact ⟨⟨_, rfl, fun h => by cases h⟩, rfl⟩)
            | (go_round
               case rel => refine ⟨j + 1, _, by omega, ?_, ?_, by go_num, rfl⟩ <;> omega
               case measure => simp [intOf]; omega)
        · go_wp2
          all_goals (go_ret; exact ⟨⟨_, rfl, fun _ => HB.out⟩, rfl⟩)

/-- The cells of the first n fields. -/
def cellsF (J : Nat → Fld) (n : Nat) : List Value := (List.range n).flatMap fun i => [.string (J i).nm, .int .u8 (J i).ty, .int .i64 (J i).wd, .int .i64 (J i).dc]
theorem cellsF_succ (J : Nat → Fld) (n : Nat) : cellsF J (n + 1) = cellsF J n ++ [.string (J n).nm, .int .u8 (J n).ty, .int .i64 (J n).wd, .int .i64 (J n).dc] := by
  simp [cellsF, List.range_succ]
theorem cellsF_length (J : Nat → Fld) (n : Nat) : (cellsF J n).length = n * 4 := by
  induction n with
  | zero => rfl
  | succ n ih => rw [cellsF_succ]; simp [ih]; omega
theorem cellsF_at (J : Nat → Fld) (n i j : Nat) (hi : i < n) (hj : j < 4) : (cellsF J n)[i * 4 + j]? = some ((J i).cell j) := by
  induction n with
  | zero => omega
  | succ n ih =>
    rw [cellsF_succ]
    by_cases h : i < n
    · rw [List.getElem?_append_left (by rw [cellsF_length]; omega)]
      exact ih h
    · obtain rfl : i = n := by omega
      rw [List.getElem?_append_right (by rw [cellsF_length]; omega), cellsF_length]
      match j, hj with
      | 0, _ => simp [Fld.cell]
      | 1, _ => simp [Fld.cell]
      | 2, _ => simp [Fld.cell]
      | 3, _ => simp [Fld.cell]

theorem grown_of_below {w w' : World} (h : Below w.heap.size w w') : w.grownBy w' none := ⟨h.os, h.tape, h.output, h.size, fun k hk _ => h.block k hk⟩
theorem own_below {w w' : World} {base e size : Nat} {v : Value} {n : Nat} {xs : List Value} (h : w.ownsRow base e size v n xs) (hb : Below w.heap.size w w') : w'.ownsRow base e size v n xs := by
  rcases hv : v.ownBlock with _ | k
  · exact h.kept (grown_of_below hb) (.inl hv)
  · exact h.kept (grown_of_below hb) (.inr (by simp [hv]))

/-- A slice of fields that is being built by append, the old memory as it was. -/
structure Bld (W0 wr : World) (g cap : Nat) (J : Nat → Fld) (m : Nat) : Prop where
  bel : Below W0.heap.size W0 wr
  own : wr.ownsRow g 30 4 (.slice (some ⟨g, 0, none⟩) m cap) m (cellsF J m)

theorem Bld.push {W0 wr w' : World} {o : Obj} {g cap m : Nat} {J : Nat → Fld} {x : Fld} (h : Bld W0 wr g cap J m) (h1 : W0.heap.size ≤ g) (e : J m = x)
    (hown : w'.ownsRow g 30 4 (.slice (some ⟨g, 0, none⟩) (m + 1) cap) (m + 1) (cellsF J m ++ [.string x.nm, .int .u8 x.ty, .int .i64 x.wd, .int .i64 x.dc])) (hg : (wr.alloc o).grownBy w' (some g)) : Bld W0 w' g cap J (m + 1) := by
  subst e
  exact ⟨(h.bel.alloc h.bel.size o).grown hg (by have := h.bel.size; simp; omega) (by intro k hk; simp at hk; omega), by rw [cellsF_succ]; exact hown⟩
theorem Bld.flds {W0 wr : World} {g cap m : Nat} {J : Nat → Fld} (h : Bld W0 wr g cap J m) : Flds wr (some ⟨g, 0, none⟩) m g 0 J := by
  refine ⟨fun _ => rfl, fun _ => (h.own.lt g rfl).2, fun i j hi hj => ?_⟩
  rw [Nat.zero_add, h.own.cellAt _ (by omega)]
  exact cellsF_at J m i j hi hj

/-- The four cells of a one-element slice that has just been laid. -/
theorem four_new (w : World) (s : ByteArray) (a b c : Int) : ∀ j u, [Value.string s, .int .u8 a, .int .i64 b, .int .i64 c][j]? = some u →
    (w.alloc (.cells #[.string s, .int .u8 a, .int .i64 b, .int .i64 c] 30)).cell? ((⟨w.heap.size, 0, none⟩ : Addr).add j) = some u := by
  intro j u hj
  match j, hj with
  | 0, hj => simp at hj; subst hj; simp [Addr.add, go_sem]
  | 1, hj => simp at hj; subst hj; simp [Addr.add, go_sem]
  | 2, hj => simp at hj; subst hj; simp [Addr.add, go_sem]
  | 3, hj => simp at hj; subst hj; simp [Addr.add, go_sem]
theorem four_one (s : ByteArray) (a b c : Int) : ∀ u ∈ [Value.string s, .int .u8 a, .int .i64 b, .int .i64 c], u.oneCell' = true := by
  intro u hu
  simp at hu
  rcases hu with rfl | rfl | rfl | rfl <;> rfl

/-- a followed by b. -/
def cat (n : Nat) (f f' : Nat → Fld) (i : Nat) : Fld := if i < n then f i else f' (i - n)
theorem cat_lt {n : Nat} {f f' : Nat → Fld} {i : Nat} (h : i < n) : cat n f f' i = f i := by simp [cat, h]
theorem cat_ge {n : Nat} {f f' : Nat → Fld} {i : Nat} : cat n f f' (n + i) = f' i := by
  unfold cat
  rw [if_neg (by omega)]
  congr 1
  omega
/-- a, then x, then b. -/
def mark (n : Nat) (f : Nat → Fld) (x : Fld) (f' : Nat → Fld) (i : Nat) : Fld := if i < n then f i else if i = n then x else f' (i - n - 1)
theorem mark_lt {n : Nat} {f f' : Nat → Fld} {x : Fld} {i : Nat} (h : i < n) : mark n f x f' i = f i := by simp [mark, h]
theorem mark_at {n : Nat} {f f' : Nat → Fld} {x : Fld} : mark n f x f' n = x := by simp [mark]
theorem mark_gt {n : Nat} {f f' : Nat → Fld} {x : Fld} {i : Nat} : mark n f x f' (n + 1 + i) = f' i := by
  unfold mark
  rw [if_neg (by omega), if_neg (by omega)]
  congr 1
  omega

/-- THE PLAIN LAW: where the joined list finds it. -/
theorem idx_cat {n m : Nat} {f f' : Nat → Fld} {x : ByteArray} {ra rb r : Int} (ha : IsIdx f n x ra) (hb : IsIdx f' m x rb) (h : IsIdx (cat n f f') (n + m) x r) :
    (0 ≤ ra ∧ r = ra) ∨ (ra = -1 ∧ 0 ≤ rb ∧ rb < m ∧ r = n + rb) ∨ (ra = -1 ∧ rb = -1 ∧ r = -1) := by
  rcases ha with ⟨k, rfl, hk, hx, hj⟩ | ⟨rfl, hj⟩
  · refine .inl ⟨by omega, h.one (.inl ⟨k, rfl, by omega, by rw [cat_lt hk]; exact hx, fun j hjk => by rw [cat_lt (by omega)]; exact hj j hjk⟩)⟩
  · rcases hb with ⟨k, rfl, hk, hx, hj'⟩ | ⟨rfl, hj'⟩
    · refine .inr (.inl ⟨rfl, by omega, by omega, h.one (.inl ⟨n + k, by omega, by omega, by rw [cat_ge]; exact hx, fun j hjk => ?_⟩)⟩)
      by_cases e : j < n
      · rw [cat_lt e]; exact hj j e
      · obtain ⟨i, rfl⟩ : ∃ i, j = n + i := ⟨j - n, by omega⟩
        rw [cat_ge]; exact hj' i (by omega)
    · refine .inr (.inr ⟨rfl, rfl, h.one (.inr ⟨rfl, fun j hjk => ?_⟩)⟩)
      by_cases e : j < n
      · rw [cat_lt e]; exact hj j e
      · obtain ⟨i, rfl⟩ : ∃ i, j = n + i := ⟨j - n, by omega⟩
        rw [cat_ge]; exact hj' i (by omega)
/-- THE PLAIN LAW: a name longer than all of a's is found right behind a. -/
theorem idx_mark {n m : Nat} {f f' : Nat → Fld} {x : Fld} {r : Int} (hl : ∀ i, i < n → (f i).nm.size < x.nm.size) (h : IsIdx (mark n f x f') (n + 1 + m) x.nm r) : r = n :=
  h.one (.inl ⟨n, rfl, by omega, by rw [mark_at], fun j hj e => by rw [mark_lt hj] at e; have := hl j hj; rw [e] at this; omega⟩)

theorem Try.info5 : (Try.prog.info? 5).map (fun i => (i.zero, i.size, i.bytes)) = some (some (.int .u8 0), 1, 1) := by kernel_rfl
/-- string(make([]byte, n)): n zero bytes. -/
theorem zeros_string (w : World) (n : Nat) : ∃ fr : ByteArray, fr.size = n ∧ (convert 34 9 (.slice (some ⟨w.heap.size, 0, none⟩) n n)).run Try.prog (w.alloc (.cells (madeCells #[.int .u8 0] n) 5)) = .ok (.string fr) (w.alloc (.cells (madeCells #[.int .u8 0] n) 5)) := by
  refine ⟨strOfNums (List.replicate n 0), by rw [strOfNums_size]; simp, ?_⟩
  refine run_convert_bytes_arg (P := Try.prog) _ 34 5 Try.underlying34 Try.underlying5 w.heap.size 0 n n (List.replicate n 0) (by simp) (fun i hi => ?_) 9 Try.underlying9
  have := (World.rowIs_made w (.int .u8 0) n 5).cell hi
  rw [Nat.zero_add, this]
  simp [List.getD, hi]
end Go.Proofs.Qxb6627699a
