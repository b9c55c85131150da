/- WHAT THE TWO LAWS' WALKS WANT. -/
import Derived.Test.Qxb6627736aDoorDecode
namespace Go.Proofs.Qxb6627736aDoor
open Go.RowKit

/-- Bytes that the call itself laid, read. -/
theorem own_bys {w : World} {B n cv : Nat} {av : Option Addr} {l : List UInt8} (h : w.ownsRow B 5 1 (.slice av n cv) n (Lib.byteCells l)) :
    ∃ g, Bys w av n g 0 (fun i => l.getD i 0) ∧ n ≤ cv ∧ l.length = n ∧ cv ≤ 9223372036854775807 := by
  have hl := h.1
  rw [Lib.byteCells_length, Nat.mul_one] at hl
  rcases h.2 with ⟨h1, h2⟩ | ⟨g, cap, cur, h1, hB, _, hcap, hmx, _⟩
  · simp only [Value.slice.injEq] at h1
    obtain ⟨rfl, rfl, rfl⟩ := h1
    exact ⟨0, ⟨fun h => absurd h (by omega), fun h => absurd h (by omega), fun _ h => absurd h (by omega)⟩, Nat.le_refl _, hl, by omega⟩
  · simp only [Value.slice.injEq] at h1
    obtain ⟨rfl, _, rfl⟩ := h1
    refine ⟨g, ⟨fun _ => rfl, fun _ => (h.lt g rfl).2, fun i hi => ?_⟩, hcap, hl, by unfold maxLen at hmx; exact hmx⟩
    rw [Nat.zero_add, h.cellAt i (by omega)]
    simp [Lib.byteCells, List.getD, List.getElem?_eq_getElem (show i < l.length by omega)]
/-- Strings that the call itself laid, read. -/
theorem own_strs {w : World} {B n cv : Nat} {av : Option Addr} {l : List ByteArray} (h : w.ownsRow B 9 1 (.slice av n cv) n (strCells l)) :
    ∃ g, Strs w av n g 0 (fun i => l.getD i ByteArray.empty) ∧ n ≤ cv ∧ l.length = n ∧ (av = none ∨ av = some ⟨g, 0, none⟩) := by
  have hl := h.1
  rw [strCells_length, Nat.mul_one] at hl
  rcases h.2 with ⟨h1, h2⟩ | ⟨g, cap, cur, h1, hB, _, hcap, _⟩
  · simp only [Value.slice.injEq] at h1
    obtain ⟨rfl, rfl, rfl⟩ := h1
    exact ⟨0, ⟨fun h => absurd h (by omega), fun h => absurd h (by omega), fun _ h => absurd h (by omega)⟩, Nat.le_refl _, hl, .inl rfl⟩
  · simp only [Value.slice.injEq] at h1
    obtain ⟨rfl, _, rfl⟩ := h1
    refine ⟨g, ⟨fun _ => rfl, fun _ => (h.lt g rfl).2, fun i hi => ?_⟩, hcap, hl, .inr rfl⟩
    rw [Nat.zero_add, h.cellAt i (by omega)]
    simp [strCells, List.getD, List.getElem?_eq_getElem (show i < l.length by omega)]

theorem grown_of_below {w w' : World} (h : Below w.heap.size w w') : w.grownBy w' none := ⟨h.os, h.tape, h.output, h.size, fun k hk _ => h.block k hk⟩
theorem own_below {w w' : World} {base e size : Nat} {v : Value} {n : Nat} {xs : List Value} (h : w.ownsRow base e size v n xs) (hb : Below w.heap.size w w') : w'.ownsRow base e size v n xs := by
  rcases hv : v.ownBlock with _ | k
  · exact h.kept (grown_of_below hb) (.inl hv)
  · exact h.kept (grown_of_below hb) (.inr (by simp [hv]))
theorem Strs.congr {w : World} {ao : Option Addr} {len b off : Nat} {S T : Nat → ByteArray} (h : Strs w ao len b off S) (e : ∀ i, i < len → S i = T i) : Strs w ao len b off T := ⟨h.at_, h.lt_, fun i hi => by rw [← e i hi]; exact h.cell_ i hi⟩
theorem Bys.congr {w : World} {ao : Option Addr} {len b off : Nat} {K M : Nat → UInt8} (h : Bys w ao len b off K) (e : ∀ i, i < len → K i = M i) : Bys w ao len b off M := ⟨h.at_, h.lt_, fun i hi => by rw [← e i hi]; exact h.cell_ i hi⟩
theorem getD_take {α : Type} {l : List α} {k i : Nat} {d : α} (h : i < k) : (l.take k).getD i d = l.getD i d := by simp [List.getD, h]
theorem getD_drop {α : Type} {l : List α} {k i : Nat} {d : α} : (l.drop k).getD i d = l.getD (k + i) d := by simp [List.getD, List.getElem?_drop]

/-- Where a cut of a slice begins. -/
def cutAt (av : Option Addr) (cv lo : Nat) : Option Addr := if cv = lo then av else av.map (·.add lo)
theorem cut_bys {w : World} {av : Option Addr} {n cv g : Nat} {K : Nat → UInt8} (h : Bys w av n g 0 K) (lo hi : Nat) (h1 : lo ≤ hi) (h2 : hi ≤ n) (h3 : n ≤ cv) : Bys w (cutAt av cv lo) (hi - lo) g lo (fun i => K (lo + i)) := by
  refine ⟨fun h0 => ?_, fun h0 => h.lt_ (by omega), fun i hi' => ?_⟩
  · rw [cutAt, if_neg (by omega), h.at_ (by omega)]
    simp [add_plain]
  · have := h.cell_ (lo + i) (by omega)
    rwa [Nat.zero_add] at this
theorem cut_strs {w : World} {av : Option Addr} {n cv g : Nat} {S : Nat → ByteArray} (h : Strs w av n g 0 S) (lo hi : Nat) (h1 : lo ≤ hi) (h2 : hi ≤ n) (h3 : n ≤ cv) : Strs w (cutAt av cv lo) (hi - lo) g lo (fun i => S (lo + i)) := by
  refine ⟨fun h0 => ?_, fun h0 => h.lt_ (by omega), fun i hi' => ?_⟩
  · rw [cutAt, if_neg (by omega), h.at_ (by omega)]
    simp [add_plain]
  · have := h.cell_ (lo + i) (by omega)
    rwa [Nat.zero_add] at this
theorem run_cut22 (av : Option Addr) (n cv lo hi : Nat) (h1 : lo ≤ hi) (h2 : hi ≤ cv) (w : World) :
    (Instr.sliceAt 22 (.slice av n cv) (some (.int .i64 (lo : Int))) (some (.int .i64 (hi : Int))) none).run Tryd.prog w = .ok (.slice (cutAt av cv lo) (hi - lo) (cv - lo)) w := by
  have e1 : (lo : Int) ≤ hi := by omega
  have e2 : (hi : Int) ≤ cv := by omega
  simp [go_sem, Tryd.underlying22, e1, e2, cutAt]
theorem run_cutl22 (av : Option Addr) (n cv lo : Nat) (h1 : lo ≤ n) (w : World) :
    (Instr.sliceAt 22 (.slice av n cv) (some (.int .i64 (lo : Int))) none none).run Tryd.prog w = .ok (.slice (cutAt av cv lo) (n - lo) (cv - lo)) w := by
  have e1 : (lo : Int) ≤ n := by omega
  simp [go_sem, Tryd.underlying22, e1, cutAt]
theorem run_cuth22 (av : Option Addr) (n cv hi : Nat) (h2 : hi ≤ cv) (w : World) :
    (Instr.sliceAt 22 (.slice av n cv) none (some (.int .i64 (hi : Int))) none).run Tryd.prog w = .ok (.slice (cutAt av cv 0) (hi - 0) (cv - 0)) w := by
  have e2 : (hi : Int) ≤ cv := by omega
  simp [go_sem, Tryd.underlying22, e2, cutAt]
theorem run_cutl23 (av : Option Addr) (n cv lo : Nat) (h1 : lo ≤ n) (w : World) :
    (Instr.sliceAt 23 (.slice av n cv) (some (.int .i64 (lo : Int))) none none).run Tryd.prog w = .ok (.slice (cutAt av cv lo) (n - lo) (cv - lo)) w := by
  have e1 : (lo : Int) ≤ n := by omega
  simp [go_sem, Tryd.underlying23, e1, cutAt]
theorem run_cuth23 (av : Option Addr) (n cv hi : Nat) (h2 : hi ≤ cv) (w : World) :
    (Instr.sliceAt 23 (.slice av n cv) none (some (.int .i64 (hi : Int))) none).run Tryd.prog w = .ok (.slice (cutAt av cv 0) (hi - 0) (cv - 0)) w := by
  have e2 : (hi : Int) ≤ cv := by omega
  simp [go_sem, Tryd.underlying23, e2, cutAt]

/-- string of a cut. -/
theorem str_cut {w : World} {A : Option Addr} {n c g off : Nat} {K : Nat → UInt8} (h : Bys w A n g off K) (v : ByteArray) (hv : v.size = n) (hK : ∀ i, i < n → K i = v.data.toList.getD i 0) :
    (convert 22 9 (.slice A n c)).run Tryd.prog w = .ok (.string v) w := by
  by_cases h0 : 0 < n
  · rw [h.at_ h0]
    exact str_of w g off n c v hv (fun p hp => by rw [h.cell_ p hp, hK p hp])
  · obtain rfl : n = 0 := by omega
    have hv0 : v = ByteArray.empty := bytes_ext (by
      have : v.data.toList.length = 0 := by simpa using hv
      rw [List.eq_nil_of_length_eq_zero this]
      rfl)
    subst hv0
    cases A with
    | none => exact run_convert_bytes_nil (P := Tryd.prog) w 22 5 Tryd.underlying22 Tryd.underlying5 0 c 9 Tryd.underlying9
    | some a =>
      rw [run_convert_bytes_string w 22 9 5 _ 0 c Tryd.underlying22 Tryd.underlying5 Tryd.underlying9, run_bytesToString w a 0 c [] (by simp [loadCells, loadCellsFrom])]
      rfl

set_option maxHeartbeats 400000 in
/-- The decoder at nothing. -/
theorem decode_zero (ao : Option Addr) (cap : Nat) (w : World) : Calls Tryd.prog 12 #[.slice ao 0 cap] w fun e w' => e = .returned (.tuple #[.slice none 0 0, .bool true]) ∧ w = w' := by
  go_enter Tryd.func12, Tryd.ntmps12
  go_wp2
  go_rounds 1
  go_ret2
  exact ⟨rfl, rfl⟩

/-- The decoder at a cut that holds the records of vs. -/
theorem decode_cut {w : World} {A : Option Addr} {n c g off : Nat} {K : Nat → UInt8} (h : Bys w A n g off K) (L : List UInt8) (vs : List ByteArray) (hL : L = enc vs) (hn : L.length = n) (hK : ∀ i, i < n → K i = L.getD i 0) (hc : n ≤ c) (hnm : n ≤ 1099511627776) (hvl : vs.length ≤ 1048576) :
    Calls Tryd.prog 12 #[.slice A n c] w fun e w' => ∃ (av : Option Addr) (cv : Nat), e = .returned (.tuple #[.slice av vs.length cv, .bool true]) ∧ w'.ownsRow w.heap.size 9 1 (.slice av vs.length cv) vs.length (strCells vs) ∧ Below w.heap.size w w' := by
  by_cases h0 : 0 < n
  · rw [h.at_ h0]
    exact decode_any g off n c L vs w hn hc hnm (h.lt_ h0) (fun j hj => by rw [h.cell_ j hj, hK j hj]) hL hvl
  · obtain rfl : n = 0 := by omega
    obtain rfl : vs = [] := enc_inj (by rw [← hL, List.eq_nil_of_length_eq_zero hn]; rfl)
    refine (decode_zero A c w).mono ?_
    rintro e w' ⟨he, rfl⟩
    exact ⟨none, 0, he, World.ownsRow_nil _ _ _ _, Below.refl _ _⟩

theorem Bys.drew {w : World} {ao : Option Addr} {len b off : Nat} {K : Nat → UInt8} (h : Bys w ao len b off K) : Bys w.drew ao len b off K := ⟨h.at_, h.lt_, h.cell_⟩
/-- zzCloneBytes behind one draw. -/
theorem clone_drew (ao : Option Addr) (len cap b off : Nat) (l : List UInt8) (w : World) (hl : l.length = len) (hm : len ≤ 1048576) (hr : Bys w ao len b off (fun i => l.getD i 0)) :
    Calls Tryd.prog 8 #[.slice ao len cap] w.drew fun e w' => ∃ (av : Option Addr) (cv : Nat), e = .returned (.slice av len cv) ∧ w'.ownsRow w.heap.size 5 1 (.slice av len cv) len (Lib.byteCells l) ∧ Below w.heap.size w w' := by
  refine (cloneBytes_any ao len cap b off l w.drew hl hm hr.drew).mono ?_
  rintro e w' ⟨av, cv, he, hown, hb⟩
  exact ⟨av, cv, he, hown, ((Below.refl _ _).drew).trans hb⟩

/-- What the bound on all lengths gives. -/
theorem tot_all (vs : List ByteArray) : totN (fun i => vs.getD i ByteArray.empty) vs.length = tot vs := by
  have h : ∀ k, k ≤ vs.length → totN (fun i => vs.getD i ByteArray.empty) k = tot (vs.take k) := by
    intro k
    induction k with
    | zero => intro _; simp [totN, tot]
    | succ k ih =>
      intro hk
      rw [totN_succ, ih (by omega), take_succ_get (by omega)]
      simp [tot]
  rw [h _ (Nat.le_refl _), List.take_length]
theorem size_le_tot {vs : List ByteArray} {v : ByteArray} (h : v ∈ vs) : v.size ≤ tot vs := by
  induction vs with
  | nil => cases h
  | cons x r ih =>
    simp only [tot, List.map_cons, List.sum_cons]
    rcases List.mem_cons.1 h with rfl | h
    · omega
    · have := ih h
      simp only [tot] at this
      omega
theorem enc_bound {vs : List ByteArray} {M : Nat} (h : vs.length + tot vs ≤ M) (hM : M ≤ 1048576) : (enc vs).length ≤ 23 * M := by
  have := enc_le vs (fun v hv => by have := size_le_tot hv; omega)
  omega
theorem getD_append_left {α : Type} {a b : List α} {i : Nat} {d : α} (h : i < a.length) : (a ++ b).getD i d = a.getD i d := by simp [List.getD, List.getElem?_append_left h]
theorem getD_append_right {α : Type} {a b : List α} {i : Nat} {d : α} : (a ++ b).getD (a.length + i) d = b.getD i d := by simp [List.getD, List.getElem?_append_right]
theorem list_of_tells {α : Type} {a b : List α} {d : α} : (a.length = b.length ∧ ∀ i, i < a.length → a.getD i d = b.getD i d) ↔ a = b := by
  refine ⟨fun ⟨h1, h2⟩ => ?_, fun h => by subst h; exact ⟨rfl, fun _ _ => rfl⟩⟩
  apply List.ext_getElem h1
  intro i h3 h4
  have := h2 i h3
  simpa [List.getD, List.getElem?_eq_getElem h3, List.getElem?_eq_getElem h4] using this
end Go.Proofs.Qxb6627736aDoor
