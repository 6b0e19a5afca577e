/-
  No cell of these rows narrows 'for every input' (looked for: loops, veiled, ifaces, maps, wideKeys, modest, calm, conditions, laid).
  DERIVED. THE GIVEN ROWS OF THIS SEAT. 1 by the template 'for every input the law returns true; each argument reads behind the call as it read before'; 0 by the template 'total and deterministic' (their statements: Qxb6612508aTotals.lean).
  GIVEN WITH THE SEED: the statements are not yours to turn. If you find one false, say at which input.
  Laid BY PROGRAM, IN A SANDBOX (cutbox-rows.mjs): the forced cells as the released guide's own fill.sh prints them over the translation 45fa1f5f9c601a84… (all of the seat's roots in one cut). By AI agents, Wed Nov 11 2026. No macro, syntax, notation, axiom, sorry.
-/
import Derived.Test.Qxb6612508aChecked
import GoSem.Claim
import GoSem.ClaimJoined
import GoSem.ClaimMapViews
import Derived.JoinedTies
import Derived.KernelRfl
namespace Go.Proofs.Qxb6612508a
/- THE CELL 'sum', in the pinned program and in every row, IS THE sha256 OF THE DUMP (.gsa) THAT Qxb6612508aProg.lean LOADS. Nothing in Lean hashes anything: it is a label: what it is worth is what the hold of that sum in a sandbox is worth. -/
noncomputable def Try.pinned : Pinned := { name := "qxb6612508a", sum := "45fa1f5f9c601a8464ec8e8276a2d2ee726ea2e749042e6434999a09be0c0f29", checked := Try.checked }
namespace Rows
def none {H : Type} : Left H := { results := [], args := [] }

/-- 'zzlaws_access_b1.FnKeyActorKeepsOrderAndIdentity': WHATEVER THE INPUT: true; the input reads as it did. -/
def fnKeyActorKeepsOrderAndIdentitySpec : ChangeSpec := { name := "fnKeyActorKeepsOrderAndIdentity", fn := fun _ => fun
  | [d1, d2] => { results := [.lit (.bool true)], args := [d1, d2] }
  | _ => none }
def fnKeyActorKeepsOrderAndIdentityRow : OpenClaim := { program := "qxb6612508a", sum := "45fa1f5f9c601a8464ec8e8276a2d2ee726ea2e749042e6434999a09be0c0f29", func := "example.com/sanad/sanad/zzlaws_access_b1.FnKeyActorKeepsOrderAndIdentity", spec := "fnKeyActorKeepsOrderAndIdentity", apart := false }
def FnKeyActorKeepsOrderAndIdentitySaid : Prop := fnKeyActorKeepsOrderAndIdentityRow.holds Try.pinned (OpenSpec.ofChange fnKeyActorKeepsOrderAndIdentitySpec)

/-- ITS FALSE NEIGHBOUR: 'it returns false'. Refute it at one input. -/
def fnKeyActorKeepsOrderAndIdentityWrong : ChangeSpec := { name := "fnKeyActorKeepsOrderAndIdentity", fn := fun _ => fun
  | [d1, d2] => { results := [.lit (.bool false)], args := [d1, d2] }
  | _ => none }
def FnKeyActorKeepsOrderAndIdentityWrongFalsely : Prop := fnKeyActorKeepsOrderAndIdentityRow.holds Try.pinned (OpenSpec.ofChange fnKeyActorKeepsOrderAndIdentityWrong)

end Rows
end Go.Proofs.Qxb6612508a
