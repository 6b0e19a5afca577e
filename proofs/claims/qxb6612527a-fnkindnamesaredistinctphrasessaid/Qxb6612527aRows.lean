/-
  No cell of these rows narrows 'for every input' (looked for: loops, veiled, ifaces, maps, wideKeys, modest, calm, conditions, laid).
  DERIVED. THE GIVEN ROWS OF THIS SEAT. 1 by the template 'for every input the law returns true; each argument reads behind the call as it read before'; 0 by the template 'total and deterministic' (their statements: Qxb6612527aTotals.lean).
  GIVEN WITH THE SEED: the statements are not yours to turn. If you find one false, say at which input.
  Laid BY PROGRAM, IN A SANDBOX (cutbox-rows.mjs): the forced cells as the released guide's own fill.sh prints them over the translation d9d997c61963b372… (all of the seat's roots in one cut). By AI agents, Wed Nov 11 2026. No macro, syntax, notation, axiom, sorry.
-/
import Derived.Test.Qxb6612527aChecked
import GoSem.Claim
import GoSem.ClaimJoined
import GoSem.ClaimMapViews
import Derived.JoinedTies
import Derived.KernelRfl
namespace Go.Proofs.Qxb6612527a
/- THE CELL 'sum', in the pinned program and in every row, IS THE sha256 OF THE DUMP (.gsa) THAT Qxb6612527aProg.lean LOADS. Nothing in Lean hashes anything: it is a label: what it is worth is what the hold of that sum in a sandbox is worth. -/
noncomputable def Try.pinned : Pinned := { name := "qxb6612527a", sum := "d9d997c61963b372436a0ac351c9118b7587674fdb64c3c9175d08b25b5e7a74", checked := Try.checked }
namespace Rows
def none {H : Type} : Left H := { results := [], args := [] }

/-- 'zzlaws_internal_strictjson_b1.FnKindNamesAreDistinctPhrases': WHATEVER THE INPUT: true; the input reads as it did. -/
def fnKindNamesAreDistinctPhrasesSpec : ChangeSpec := { name := "fnKindNamesAreDistinctPhrases", fn := fun _ => fun
  | [d1, d2] => { results := [.lit (.bool true)], args := [d1, d2] }
  | _ => none }
def fnKindNamesAreDistinctPhrasesRow : OpenClaim := { program := "qxb6612527a", sum := "d9d997c61963b372436a0ac351c9118b7587674fdb64c3c9175d08b25b5e7a74", func := "example.com/vestline/vestline/zzlaws_internal_strictjson_b1.FnKindNamesAreDistinctPhrases", spec := "fnKindNamesAreDistinctPhrases", apart := false }
def FnKindNamesAreDistinctPhrasesSaid : Prop := fnKindNamesAreDistinctPhrasesRow.holds Try.pinned (OpenSpec.ofChange fnKindNamesAreDistinctPhrasesSpec)

/-- ITS FALSE NEIGHBOUR: 'it returns false'. Refute it at one input. -/
def fnKindNamesAreDistinctPhrasesWrong : ChangeSpec := { name := "fnKindNamesAreDistinctPhrases", fn := fun _ => fun
  | [d1, d2] => { results := [.lit (.bool false)], args := [d1, d2] }
  | _ => none }
def FnKindNamesAreDistinctPhrasesWrongFalsely : Prop := fnKindNamesAreDistinctPhrasesRow.holds Try.pinned (OpenSpec.ofChange fnKindNamesAreDistinctPhrasesWrong)

end Rows
end Go.Proofs.Qxb6612527a
