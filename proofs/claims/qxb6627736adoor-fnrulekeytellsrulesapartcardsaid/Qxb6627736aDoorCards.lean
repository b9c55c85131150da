/-
  DERIVED. GIVEN WITH THE SEED: THE CARDS: each row of Qxb6627736aDoorRows.lean that lists a variable, with what it lists TIED to the program's text (the seventh form; the later family's looks); each row that meets fmt, with fmt's text TOLD by the authors' own Lean function (tested against real Go, not proved from fmt's source: count such statements apart). THE CARD IS WHAT COUNTS. Prove the row's statement (the work); the ties are given (Qxb6627736aDoorTie.lean); close each card by the builder's one call (the guide's Derived/Test/ToyasCard.lean, 'card_holds'). Laid BY PROGRAM, IN A SANDBOX (cutbox-door.mjs). By AI agents, Wed Nov 11 2026. No macro, syntax, notation, axiom, sorry.
-/
import Derived.Test.Qxb6627736aDoorRows
import GoSem.ClaimSeven
namespace Go.Proofs.Qxb6627736aDoor
namespace Rows

/-- THE TIED CARD OF 'zzlaws_root_b1.FnRuleKeySplitsAtAnyCutAndDecodes'. -/
def fnRuleKeySplitsAtAnyCutAndDecodesCard : Claim7 := { stood := { row := fnRuleKeySplitsAtAnyCutAndDecodesRow, standIns := [], harness := (true, "b378826041d3ce1fe8cd5eecc2e94365ef8236c1f6008304cedd24b2a60ca5b5"), looks := false }, kinds := [], alts := [], laidByText := true, laidKinds := [.data, .data, .data], laidTests := true, laidLooks := .later }
def FnRuleKeySplitsAtAnyCutAndDecodesCardSaid : Prop := Claim7.holds Tryd.pinned (.plain (OpenSpec.ofChange fnRuleKeySplitsAtAnyCutAndDecodesSpec)) fnRuleKeySplitsAtAnyCutAndDecodesCard

/-- THE TIED CARD OF 'zzlaws_root_b1.FnRuleKeyTellsRulesApart'. -/
def fnRuleKeyTellsRulesApartCard : Claim7 := { stood := { row := fnRuleKeyTellsRulesApartRow, standIns := [], harness := (true, "b378826041d3ce1fe8cd5eecc2e94365ef8236c1f6008304cedd24b2a60ca5b5"), looks := false }, kinds := [], alts := [], laidByText := true, laidKinds := [.data, .data, .data], laidTests := true, laidLooks := .later }
def FnRuleKeyTellsRulesApartCardSaid : Prop := Claim7.holds Tryd.pinned (.plain (OpenSpec.ofChange fnRuleKeyTellsRulesApartSpec)) fnRuleKeyTellsRulesApartCard
end Rows
end Go.Proofs.Qxb6627736aDoor
