/-
  No cell of these rows narrows 'for every input' (looked for: loops, veiled, ifaces, maps, wideKeys, modest, calm, conditions, laid).
  DERIVED. THE GIVEN ROWS OF THIS SEAT. 2 by the template 'for every input the law returns true; each argument reads behind the call as it read before'; 0 by the template 'total and deterministic' (their statements: Qxb6627661aTotals.lean).
  GIVEN WITH THE SEED: the statements are not yours to turn. If you find one false, say at which input.
  Laid BY PROGRAM, IN A SANDBOX (cutbox-rows.mjs): the forced cells as the released guide's own fill.sh prints them over the translation b04b8f2a3bc97da7… (all of the seat's roots in one cut). By AI agents, Wed Nov 11 2026. No macro, syntax, notation, axiom, sorry.
-/
import Derived.Test.Qxb6627661aChecked
import GoSem.Claim
import GoSem.ClaimJoined
import GoSem.ClaimMapViews
import Derived.JoinedTies
import Derived.KernelRfl
namespace Go.Proofs.Qxb6627661a
/- THE CELL 'sum', in the pinned program and in every row, IS THE sha256 OF THE DUMP (.gsa) THAT Qxb6627661aProg.lean LOADS. Nothing in Lean hashes anything: it is a label: what it is worth is what the hold of that sum in a sandbox is worth. -/
noncomputable def Try.pinned : Pinned := { name := "qxb6627661a", sum := "b04b8f2a3bc97da797455988ad6bbd03350aaa6ae26f48beb481eed271518842", checked := Try.checked }
namespace Rows
def none {H : Type} : Left H := { results := [], args := [] }

/-- 'zzlaws_internal_check_b1.FnFailedInsertOneRow': WHATEVER THE INPUT: true; the input reads as it did. -/
def fnFailedInsertOneRowSpec : ChangeSpec := { name := "fnFailedInsertOneRow", fn := fun _ => fun
  | [d1, d2, d3] => { results := [.lit (.bool true)], args := [d1, d2, d3] }
  | _ => none }
def fnFailedInsertOneRowRow : OpenClaim := { program := "qxb6627661a", sum := "b04b8f2a3bc97da797455988ad6bbd03350aaa6ae26f48beb481eed271518842", func := "example.com/guishu/guishu/zzlaws_internal_check_b1.FnFailedInsertOneRow", spec := "fnFailedInsertOneRow", apart := false }
def FnFailedInsertOneRowSaid : Prop := fnFailedInsertOneRowRow.holds Try.pinned (OpenSpec.ofChange fnFailedInsertOneRowSpec)

/-- ITS FALSE NEIGHBOUR: 'it returns false'. Refute it at one input. -/
def fnFailedInsertOneRowWrong : ChangeSpec := { name := "fnFailedInsertOneRow", fn := fun _ => fun
  | [d1, d2, d3] => { results := [.lit (.bool false)], args := [d1, d2, d3] }
  | _ => none }
def FnFailedInsertOneRowWrongFalsely : Prop := fnFailedInsertOneRowRow.holds Try.pinned (OpenSpec.ofChange fnFailedInsertOneRowWrong)

/-- 'zzlaws_internal_check_b1.FnFailedSplitAnywhere': WHATEVER THE INPUT: true; the input reads as it did. -/
def fnFailedSplitAnywhereSpec : ChangeSpec := { name := "fnFailedSplitAnywhere", fn := fun _ => fun
  | [d1, d2] => { results := [.lit (.bool true)], args := [d1, d2] }
  | _ => none }
def fnFailedSplitAnywhereRow : OpenClaim := { program := "qxb6627661a", sum := "b04b8f2a3bc97da797455988ad6bbd03350aaa6ae26f48beb481eed271518842", func := "example.com/guishu/guishu/zzlaws_internal_check_b1.FnFailedSplitAnywhere", spec := "fnFailedSplitAnywhere", apart := false }
def FnFailedSplitAnywhereSaid : Prop := fnFailedSplitAnywhereRow.holds Try.pinned (OpenSpec.ofChange fnFailedSplitAnywhereSpec)

/-- ITS FALSE NEIGHBOUR: 'it returns false'. Refute it at one input. -/
def fnFailedSplitAnywhereWrong : ChangeSpec := { name := "fnFailedSplitAnywhere", fn := fun _ => fun
  | [d1, d2] => { results := [.lit (.bool false)], args := [d1, d2] }
  | _ => none }
def FnFailedSplitAnywhereWrongFalsely : Prop := fnFailedSplitAnywhereRow.holds Try.pinned (OpenSpec.ofChange fnFailedSplitAnywhereWrong)

end Rows
end Go.Proofs.Qxb6627661a
