/-
  No cell of these rows narrows 'for every input' (looked for: loops, veiled, ifaces, maps, wideKeys, modest, calm, conditions, laid).
  DERIVED. THE GIVEN ROWS OF THIS SEAT. 2 by the template 'for every input the law returns true; each argument reads behind the call as it read before'; 0 by the template 'total and deterministic' (their statements: Qxb6612497aTotals.lean).
  GIVEN WITH THE SEED: the statements are not yours to turn. If you find one false, say at which input.
  Laid BY PROGRAM, IN A SANDBOX (cutbox-rows.mjs): the forced cells as the released guide's own fill.sh prints them over the translation d20af8323ce11a51… (all of the seat's roots in one cut). By AI agents, Wed Nov 11 2026. No macro, syntax, notation, axiom, sorry.
-/
import Derived.Test.Qxb6612497aChecked
import GoSem.Claim
import GoSem.ClaimJoined
import GoSem.ClaimMapViews
import Derived.JoinedTies
import Derived.KernelRfl
namespace Go.Proofs.Qxb6612497a
/- THE CELL 'sum', in the pinned program and in every row, IS THE sha256 OF THE DUMP (.gsa) THAT Qxb6612497aProg.lean LOADS. Nothing in Lean hashes anything: it is a label: what it is worth is what the hold of that sum in a sandbox is worth. -/
noncomputable def Try.pinned : Pinned := { name := "qxb6612497a", sum := "d20af8323ce11a5153ba23849efce5e4c4d8f9a40a0490b9ebdd2f2cf2131827", checked := Try.checked }
namespace Rows
def none {H : Type} : Left H := { results := [], args := [] }

/-- 'zzlaws_internal_model_b1.FnSafetyPropertiesAreTheSafetyOnesInOrder': WHATEVER THE INPUT: true; the input reads as it did. -/
def fnSafetyPropertiesAreTheSafetyOnesInOrderSpec : ChangeSpec := { name := "fnSafetyPropertiesAreTheSafetyOnesInOrder", fn := fun _ => fun
  | [d1, d2] => { results := [.lit (.bool true)], args := [d1, d2] }
  | _ => none }
def fnSafetyPropertiesAreTheSafetyOnesInOrderRow : OpenClaim := { program := "qxb6612497a", sum := "d20af8323ce11a5153ba23849efce5e4c4d8f9a40a0490b9ebdd2f2cf2131827", func := "example.com/ballotproof/ballotproof/zzlaws_internal_model_b1.FnSafetyPropertiesAreTheSafetyOnesInOrder", spec := "fnSafetyPropertiesAreTheSafetyOnesInOrder", unfollowed := true, recurses := true, apart := false }
def FnSafetyPropertiesAreTheSafetyOnesInOrderSaid : Prop := fnSafetyPropertiesAreTheSafetyOnesInOrderRow.holds Try.pinned (OpenSpec.ofChange fnSafetyPropertiesAreTheSafetyOnesInOrderSpec)

/-- ITS FALSE NEIGHBOUR: 'it returns false'. Refute it at one input. -/
def fnSafetyPropertiesAreTheSafetyOnesInOrderWrong : ChangeSpec := { name := "fnSafetyPropertiesAreTheSafetyOnesInOrder", fn := fun _ => fun
  | [d1, d2] => { results := [.lit (.bool false)], args := [d1, d2] }
  | _ => none }
def FnSafetyPropertiesAreTheSafetyOnesInOrderWrongFalsely : Prop := fnSafetyPropertiesAreTheSafetyOnesInOrderRow.holds Try.pinned (OpenSpec.ofChange fnSafetyPropertiesAreTheSafetyOnesInOrderWrong)

/-- 'zzlaws_internal_model_b1.FnSafetyPropertiesLeavesTheModelAndSettles': WHATEVER THE INPUT: true; the input reads as it did. -/
def fnSafetyPropertiesLeavesTheModelAndSettlesSpec : ChangeSpec := { name := "fnSafetyPropertiesLeavesTheModelAndSettles", fn := fun _ => fun
  | [d1, d2] => { results := [.lit (.bool true)], args := [d1, d2] }
  | _ => none }
def fnSafetyPropertiesLeavesTheModelAndSettlesRow : OpenClaim := { program := "qxb6612497a", sum := "d20af8323ce11a5153ba23849efce5e4c4d8f9a40a0490b9ebdd2f2cf2131827", func := "example.com/ballotproof/ballotproof/zzlaws_internal_model_b1.FnSafetyPropertiesLeavesTheModelAndSettles", spec := "fnSafetyPropertiesLeavesTheModelAndSettles", unfollowed := true, recurses := true, apart := false }
def FnSafetyPropertiesLeavesTheModelAndSettlesSaid : Prop := fnSafetyPropertiesLeavesTheModelAndSettlesRow.holds Try.pinned (OpenSpec.ofChange fnSafetyPropertiesLeavesTheModelAndSettlesSpec)

/-- ITS FALSE NEIGHBOUR: 'it returns false'. Refute it at one input. -/
def fnSafetyPropertiesLeavesTheModelAndSettlesWrong : ChangeSpec := { name := "fnSafetyPropertiesLeavesTheModelAndSettles", fn := fun _ => fun
  | [d1, d2] => { results := [.lit (.bool false)], args := [d1, d2] }
  | _ => none }
def FnSafetyPropertiesLeavesTheModelAndSettlesWrongFalsely : Prop := fnSafetyPropertiesLeavesTheModelAndSettlesRow.holds Try.pinned (OpenSpec.ofChange fnSafetyPropertiesLeavesTheModelAndSettlesWrong)

end Rows
end Go.Proofs.Qxb6612497a
