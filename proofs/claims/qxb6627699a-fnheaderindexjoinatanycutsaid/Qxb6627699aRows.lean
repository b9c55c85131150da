/-
  No cell of these rows narrows 'for every input' (looked for: loops, veiled, ifaces, maps, wideKeys, modest, calm, conditions, laid).
  DERIVED. THE GIVEN ROWS OF THIS SEAT. 2 by the template 'for every input the law returns true; each argument reads behind the call as it read before'; 0 by the template 'total and deterministic' (their statements: Qxb6627699aTotals.lean).
  GIVEN WITH THE SEED: the statements are not yours to turn. If you find one false, say at which input.
  Laid BY PROGRAM, IN A SANDBOX (cutbox-rows.mjs): the forced cells as the released guide's own fill.sh prints them over the translation a7120fe55abe61cd… (all of the seat's roots in one cut). By AI agents, Wed Nov 11 2026. No macro, syntax, notation, axiom, sorry.
-/
import Derived.Test.Qxb6627699aChecked
import GoSem.Claim
import GoSem.ClaimJoined
import GoSem.ClaimMapViews
import Derived.JoinedTies
import Derived.KernelRfl
namespace Go.Proofs.Qxb6627699a
/- THE CELL 'sum', in the pinned program and in every row, IS THE sha256 OF THE DUMP (.gsa) THAT Qxb6627699aProg.lean LOADS. Nothing in Lean hashes anything: it is a label: what it is worth is what the hold of that sum in a sandbox is worth. -/
noncomputable def Try.pinned : Pinned := { name := "qxb6627699a", sum := "a7120fe55abe61cd3231e54b32ce8c3cd7db72f2c437113d59f8e6b1f682cda1", checked := Try.checked }
namespace Rows
def none {H : Type} : Left H := { results := [], args := [] }

/-- 'zzlaws_pkg_ofd_b1.FnHeaderIndexJoinAtAnyCut': WHATEVER THE INPUT: true; the input reads as it did. -/
def fnHeaderIndexJoinAtAnyCutSpec : ChangeSpec := { name := "fnHeaderIndexJoinAtAnyCut", fn := fun _ => fun
  | [d1, d2, d3] => { results := [.lit (.bool true)], args := [d1, d2, d3] }
  | _ => none }
def fnHeaderIndexJoinAtAnyCutRow : OpenClaim := { program := "qxb6627699a", sum := "a7120fe55abe61cd3231e54b32ce8c3cd7db72f2c437113d59f8e6b1f682cda1", func := "example.com/zhaomu/zhaomu/zzlaws_pkg_ofd_b1.FnHeaderIndexJoinAtAnyCut", spec := "fnHeaderIndexJoinAtAnyCut", apart := false }
def FnHeaderIndexJoinAtAnyCutSaid : Prop := fnHeaderIndexJoinAtAnyCutRow.holds Try.pinned (OpenSpec.ofChange fnHeaderIndexJoinAtAnyCutSpec)

/-- ITS FALSE NEIGHBOUR: 'it returns false'. Refute it at one input. -/
def fnHeaderIndexJoinAtAnyCutWrong : ChangeSpec := { name := "fnHeaderIndexJoinAtAnyCut", fn := fun _ => fun
  | [d1, d2, d3] => { results := [.lit (.bool false)], args := [d1, d2, d3] }
  | _ => none }
def FnHeaderIndexJoinAtAnyCutWrongFalsely : Prop := fnHeaderIndexJoinAtAnyCutRow.holds Try.pinned (OpenSpec.ofChange fnHeaderIndexJoinAtAnyCutWrong)

/-- 'zzlaws_pkg_ofd_b1.FnHeaderIndexFindsFirstHolder': WHATEVER THE INPUT: true; the input reads as it did. -/
def fnHeaderIndexFindsFirstHolderSpec : ChangeSpec := { name := "fnHeaderIndexFindsFirstHolder", fn := fun _ => fun
  | [d1, d2] => { results := [.lit (.bool true)], args := [d1, d2] }
  | _ => none }
def fnHeaderIndexFindsFirstHolderRow : OpenClaim := { program := "qxb6627699a", sum := "a7120fe55abe61cd3231e54b32ce8c3cd7db72f2c437113d59f8e6b1f682cda1", func := "example.com/zhaomu/zhaomu/zzlaws_pkg_ofd_b1.FnHeaderIndexFindsFirstHolder", spec := "fnHeaderIndexFindsFirstHolder", apart := false }
def FnHeaderIndexFindsFirstHolderSaid : Prop := fnHeaderIndexFindsFirstHolderRow.holds Try.pinned (OpenSpec.ofChange fnHeaderIndexFindsFirstHolderSpec)

/-- ITS FALSE NEIGHBOUR: 'it returns false'. Refute it at one input. -/
def fnHeaderIndexFindsFirstHolderWrong : ChangeSpec := { name := "fnHeaderIndexFindsFirstHolder", fn := fun _ => fun
  | [d1, d2] => { results := [.lit (.bool false)], args := [d1, d2] }
  | _ => none }
def FnHeaderIndexFindsFirstHolderWrongFalsely : Prop := fnHeaderIndexFindsFirstHolderRow.holds Try.pinned (OpenSpec.ofChange fnHeaderIndexFindsFirstHolderWrong)

end Rows
end Go.Proofs.Qxb6627699a
