/-
  No cell of these rows narrows 'for every input' (looked for: loops, veiled, ifaces, maps, wideKeys, modest, calm, conditions, laid).
  DERIVED. THE GIVEN ROWS OF THIS SEAT. 4 by the template 'for every input the law returns true; each argument reads behind the call as it read before'; 0 by the template 'total and deterministic' (their statements: Qxb6612538aTotals.lean).
  GIVEN WITH THE SEED: the statements are not yours to turn. If you find one false, say at which input.
  Laid BY PROGRAM, IN A SANDBOX (cutbox-rows.mjs): the forced cells as the released guide's own fill.sh prints them over the translation c9ef3ac4e628c85a… (all of the seat's roots in one cut). By AI agents, Wed Nov 11 2026. No macro, syntax, notation, axiom, sorry.
-/
import Derived.Test.Qxb6612538aChecked
import GoSem.Claim
import GoSem.ClaimJoined
import GoSem.ClaimMapViews
import Derived.JoinedTies
import Derived.KernelRfl
namespace Go.Proofs.Qxb6612538a
/- THE CELL 'sum', in the pinned program and in every row, IS THE sha256 OF THE DUMP (.gsa) THAT Qxb6612538aProg.lean LOADS. Nothing in Lean hashes anything: it is a label: what it is worth is what the hold of that sum in a sandbox is worth. -/
noncomputable def Try.pinned : Pinned := { name := "qxb6612538a", sum := "c9ef3ac4e628c85a019a914cdb93ebf44231991b81978331b4d8d5e5f943e08a", checked := Try.checked }
namespace Rows
def none {H : Type} : Left H := { results := [], args := [] }

/-- 'zzlaws_pkg_history_b1.FnAboveTrichotomyWithinComponent': WHATEVER THE INPUT: true; the input reads as it did. -/
def fnAboveTrichotomyWithinComponentSpec : ChangeSpec := { name := "fnAboveTrichotomyWithinComponent", fn := fun _ => fun
  | [d1, d2, d3] => { results := [.lit (.bool true)], args := [d1, d2, d3] }
  | _ => none }
def fnAboveTrichotomyWithinComponentRow : OpenClaim := { program := "qxb6612538a", sum := "c9ef3ac4e628c85a019a914cdb93ebf44231991b81978331b4d8d5e5f943e08a", func := "example.com/isolens/isolens/zzlaws_pkg_history_b1.FnAboveTrichotomyWithinComponent", spec := "fnAboveTrichotomyWithinComponent", apart := false }
def FnAboveTrichotomyWithinComponentSaid : Prop := fnAboveTrichotomyWithinComponentRow.holds Try.pinned (OpenSpec.ofChange fnAboveTrichotomyWithinComponentSpec)

/-- ITS FALSE NEIGHBOUR: 'it returns false'. Refute it at one input. -/
def fnAboveTrichotomyWithinComponentWrong : ChangeSpec := { name := "fnAboveTrichotomyWithinComponent", fn := fun _ => fun
  | [d1, d2, d3] => { results := [.lit (.bool false)], args := [d1, d2, d3] }
  | _ => none }
def FnAboveTrichotomyWithinComponentWrongFalsely : Prop := fnAboveTrichotomyWithinComponentRow.holds Try.pinned (OpenSpec.ofChange fnAboveTrichotomyWithinComponentWrong)

/-- 'zzlaws_pkg_history_b1.FnAboveStepsUpTheComponent': WHATEVER THE INPUT: true; the input reads as it did. -/
def fnAboveStepsUpTheComponentSpec : ChangeSpec := { name := "fnAboveStepsUpTheComponent", fn := fun _ => fun
  | [d1, d2] => { results := [.lit (.bool true)], args := [d1, d2] }
  | _ => none }
def fnAboveStepsUpTheComponentRow : OpenClaim := { program := "qxb6612538a", sum := "c9ef3ac4e628c85a019a914cdb93ebf44231991b81978331b4d8d5e5f943e08a", func := "example.com/isolens/isolens/zzlaws_pkg_history_b1.FnAboveStepsUpTheComponent", spec := "fnAboveStepsUpTheComponent", apart := false }
def FnAboveStepsUpTheComponentSaid : Prop := fnAboveStepsUpTheComponentRow.holds Try.pinned (OpenSpec.ofChange fnAboveStepsUpTheComponentSpec)

/-- ITS FALSE NEIGHBOUR: 'it returns false'. Refute it at one input. -/
def fnAboveStepsUpTheComponentWrong : ChangeSpec := { name := "fnAboveStepsUpTheComponent", fn := fun _ => fun
  | [d1, d2] => { results := [.lit (.bool false)], args := [d1, d2] }
  | _ => none }
def FnAboveStepsUpTheComponentWrongFalsely : Prop := fnAboveStepsUpTheComponentRow.holds Try.pinned (OpenSpec.ofChange fnAboveStepsUpTheComponentWrong)

/-- 'zzlaws_pkg_history_b1.FnHubPassTakesJoinedAccepted': WHATEVER THE INPUT: true; the input reads as it did. -/
def fnHubPassTakesJoinedAcceptedSpec : ChangeSpec := { name := "fnHubPassTakesJoinedAccepted", fn := fun _ => fun
  | [d1, d2, d3, d4] => { results := [.lit (.bool true)], args := [d1, d2, d3, d4] }
  | _ => none }
def fnHubPassTakesJoinedAcceptedRow : OpenClaim := { program := "qxb6612538a", sum := "c9ef3ac4e628c85a019a914cdb93ebf44231991b81978331b4d8d5e5f943e08a", func := "example.com/isolens/isolens/zzlaws_pkg_history_b1.FnHubPassTakesJoinedAccepted", spec := "fnHubPassTakesJoinedAccepted", unfollowed := true, recurses := true, apart := false }
def FnHubPassTakesJoinedAcceptedSaid : Prop := fnHubPassTakesJoinedAcceptedRow.holds Try.pinned (OpenSpec.ofChange fnHubPassTakesJoinedAcceptedSpec)

/-- ITS FALSE NEIGHBOUR: 'it returns false'. Refute it at one input. -/
def fnHubPassTakesJoinedAcceptedWrong : ChangeSpec := { name := "fnHubPassTakesJoinedAccepted", fn := fun _ => fun
  | [d1, d2, d3, d4] => { results := [.lit (.bool false)], args := [d1, d2, d3, d4] }
  | _ => none }
def FnHubPassTakesJoinedAcceptedWrongFalsely : Prop := fnHubPassTakesJoinedAcceptedRow.holds Try.pinned (OpenSpec.ofChange fnHubPassTakesJoinedAcceptedWrong)

/-- 'zzlaws_pkg_history_b1.FnHubPassTriesEachOnceARun': WHATEVER THE INPUT: true; the input reads as it did. -/
def fnHubPassTriesEachOnceARunSpec : ChangeSpec := { name := "fnHubPassTriesEachOnceARun", fn := fun _ => fun
  | [d1, d2, d3, d4, d5] => { results := [.lit (.bool true)], args := [d1, d2, d3, d4, d5] }
  | _ => none }
def fnHubPassTriesEachOnceARunRow : OpenClaim := { program := "qxb6612538a", sum := "c9ef3ac4e628c85a019a914cdb93ebf44231991b81978331b4d8d5e5f943e08a", func := "example.com/isolens/isolens/zzlaws_pkg_history_b1.FnHubPassTriesEachOnceARun", spec := "fnHubPassTriesEachOnceARun", unfollowed := true, recurses := true, apart := false }
def FnHubPassTriesEachOnceARunSaid : Prop := fnHubPassTriesEachOnceARunRow.holds Try.pinned (OpenSpec.ofChange fnHubPassTriesEachOnceARunSpec)

/-- ITS FALSE NEIGHBOUR: 'it returns false'. Refute it at one input. -/
def fnHubPassTriesEachOnceARunWrong : ChangeSpec := { name := "fnHubPassTriesEachOnceARun", fn := fun _ => fun
  | [d1, d2, d3, d4, d5] => { results := [.lit (.bool false)], args := [d1, d2, d3, d4, d5] }
  | _ => none }
def FnHubPassTriesEachOnceARunWrongFalsely : Prop := fnHubPassTriesEachOnceARunRow.holds Try.pinned (OpenSpec.ofChange fnHubPassTriesEachOnceARunWrong)

end Rows
end Go.Proofs.Qxb6612538a
