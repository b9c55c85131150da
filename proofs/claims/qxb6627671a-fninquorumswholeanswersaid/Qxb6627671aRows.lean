/-
  No cell of these rows narrows 'for every input' (looked for: loops, veiled, ifaces, maps, wideKeys, modest, calm, conditions, laid).
  DERIVED. THE GIVEN ROWS OF THIS SEAT. 1 by the template 'for every input the law returns true; each argument reads behind the call as it read before'; 0 by the template 'total and deterministic' (their statements: Qxb6627671aTotals.lean).
  GIVEN WITH THE SEED: the statements are not yours to turn. If you find one false, say at which input.
  Laid BY PROGRAM, IN A SANDBOX (cutbox-rows.mjs): the forced cells as the released guide's own fill.sh prints them over the translation 1a68551987670dc4… (all of the seat's roots in one cut). By AI agents, Wed Nov 11 2026. No macro, syntax, notation, axiom, sorry.
-/
import Derived.Test.Qxb6627671aChecked
import GoSem.Claim
import GoSem.ClaimJoined
import GoSem.ClaimMapViews
import Derived.JoinedTies
import Derived.KernelRfl
namespace Go.Proofs.Qxb6627671a
/- THE CELL 'sum', in the pinned program and in every row, IS THE sha256 OF THE DUMP (.gsa) THAT Qxb6627671aProg.lean LOADS. Nothing in Lean hashes anything: it is a label: what it is worth is what the hold of that sum in a sandbox is worth. -/
noncomputable def Try.pinned : Pinned := { name := "qxb6627671a", sum := "1a68551987670dc494d629e6b510ced69c0487c321e8a61931e511873c5cd1b4", checked := Try.checked }
namespace Rows
def none {H : Type} : Left H := { results := [], args := [] }

/-- 'zzlaws_internal_placement_b1.FnInQuorumsWholeAnswer': WHATEVER THE INPUT: true; the input reads as it did. -/
def fnInQuorumsWholeAnswerSpec : ChangeSpec := { name := "fnInQuorumsWholeAnswer", fn := fun _ => fun
  | [d1, d2, d3, d4, d5, d6, d7, d8, d9, d10] => { results := [.lit (.bool true)], args := [d1, d2, d3, d4, d5, d6, d7, d8, d9, d10] }
  | _ => none }
def fnInQuorumsWholeAnswerRow : OpenClaim := { program := "qxb6627671a", sum := "1a68551987670dc494d629e6b510ced69c0487c321e8a61931e511873c5cd1b4", func := "example.com/quorate/quorate/zzlaws_internal_placement_b1.FnInQuorumsWholeAnswer", spec := "fnInQuorumsWholeAnswer", apart := false }
def FnInQuorumsWholeAnswerSaid : Prop := fnInQuorumsWholeAnswerRow.holds Try.pinned (OpenSpec.ofChange fnInQuorumsWholeAnswerSpec)

/-- ITS FALSE NEIGHBOUR: 'it returns false'. Refute it at one input. -/
def fnInQuorumsWholeAnswerWrong : ChangeSpec := { name := "fnInQuorumsWholeAnswer", fn := fun _ => fun
  | [d1, d2, d3, d4, d5, d6, d7, d8, d9, d10] => { results := [.lit (.bool false)], args := [d1, d2, d3, d4, d5, d6, d7, d8, d9, d10] }
  | _ => none }
def FnInQuorumsWholeAnswerWrongFalsely : Prop := fnInQuorumsWholeAnswerRow.holds Try.pinned (OpenSpec.ofChange fnInQuorumsWholeAnswerWrong)

end Rows
end Go.Proofs.Qxb6627671a
