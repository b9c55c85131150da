/- THE WALKS OF THE SMALL FUNCTIONS. -/
import Derived.Test.Qxb6627661aRows
import Derived.WalkKit
import Derived.WalkSpells
import Derived.WalkLawsBesides
import Derived.Handy
namespace Go.Proofs.Qxb6627661a
open Go.RowKit

set_option maxHeartbeats 400000 in
theorem failAdd_any (t n : Int) (w : World) :
    Calls Try.prog 11 #[.int .i64 t, .int .i64 n] w fun e w' => ∃ (t' : Int) (b : Bool), e = .returned (.tuple #[.int .i64 t', .bool b]) ∧ w' = w := by
  go_enter Try.func11, Try.ntmps11
  go_wp2
  all_goals (go_ret2; exact ⟨_, _, rfl, rfl⟩)

set_option maxHeartbeats 400000 in
theorem failRowAdd_any (t : Int) (s0 s1 s2 s3 : ByteArray) (w : World) :
    Calls Try.prog 6 #[.int .i64 t, .agg #[.string s0, .string s1, .string s2, .string s3]] w fun e w' => ∃ (t' : Int) (b : Bool), e = .returned (.tuple #[.int .i64 t', .bool b]) ∧ Below w.heap.size w w' := by
  go_enter Try.func6, Try.ntmps6
  go_wp2_with (go_at_call 11; refine (failAdd_any _ _ _).mono ?_; rintro e w' ⟨t', b', rfl, rfl⟩)
  all_goals (go_ret2; exact ⟨_, _, rfl, by go_grown⟩)

end Go.Proofs.Qxb6627661a
