/-
  No cell of these rows narrows 'for every input' (looked for: loops, veiled, ifaces, maps, wideKeys, modest, calm, conditions, laid).
  DERIVED. THE GIVEN ROWS OF THIS SEAT. 2 by the template 'for every input the law returns true; each argument reads behind the call as it read before'; 0 by the template 'total and deterministic' (their statements: Qxb6604008aTotals.lean).
  GIVEN WITH THE SEED: the statements are not yours to turn. If you find one false, say at which input.
  Laid BY PROGRAM, IN A SANDBOX (cutbox-rows.mjs): the forced cells as the released guide's own fill.sh prints them over the translation a473fd87ddda1c22… (all of the seat's roots in one cut). By AI agents, Wed Nov 11 2026. No macro, syntax, notation, axiom, sorry.
-/
import Derived.Test.Qxb6604008aChecked
import GoSem.Claim
import GoSem.ClaimJoined
import GoSem.ClaimMapViews
import Derived.JoinedTies
import Derived.KernelRfl
namespace Go.Proofs.Qxb6604008a
/- THE CELL 'sum', in the pinned program and in every row, IS THE sha256 OF THE DUMP (.gsa) THAT Qxb6604008aProg.lean LOADS. Nothing in Lean hashes anything: it is a label: what it is worth is what the hold of that sum in a sandbox is worth. -/
noncomputable def Try.pinned : Pinned := { name := "qxb6604008a", sum := "a473fd87ddda1c222ccf68e6fd3e1d60500d550e0e9a0bf1f3baf10043cf06d8", checked := Try.checked }
namespace Rows
def none {H : Type} : Left H := { results := [], args := [] }

/-- 'zzlaws_root_b1.FnSnakeCaseMatchesWordSplitModel': WHATEVER THE INPUT: true; the input reads as it did. -/
def fnSnakeCaseMatchesWordSplitModelSpec : ChangeSpec := { name := "fnSnakeCaseMatchesWordSplitModel", fn := fun _ => fun
  | [d] => { results := [.lit (.bool true)], args := [d] }
  | _ => none }
def fnSnakeCaseMatchesWordSplitModelRow : OpenClaim := { program := "qxb6604008a", sum := "a473fd87ddda1c222ccf68e6fd3e1d60500d550e0e9a0bf1f3baf10043cf06d8", func := "example.com/arbora/arbora/zzlaws_root_b1.FnSnakeCaseMatchesWordSplitModel", spec := "fnSnakeCaseMatchesWordSplitModel", inPlace := ["internal/abi.NoEscape"], apart := false }
def FnSnakeCaseMatchesWordSplitModelSaid : Prop := fnSnakeCaseMatchesWordSplitModelRow.holds Try.pinned (OpenSpec.ofChange fnSnakeCaseMatchesWordSplitModelSpec)

/-- ITS FALSE NEIGHBOUR: 'it returns false'. Refute it at one input. -/
def fnSnakeCaseMatchesWordSplitModelWrong : ChangeSpec := { name := "fnSnakeCaseMatchesWordSplitModel", fn := fun _ => fun
  | [d] => { results := [.lit (.bool false)], args := [d] }
  | _ => none }
def FnSnakeCaseMatchesWordSplitModelWrongFalsely : Prop := fnSnakeCaseMatchesWordSplitModelRow.holds Try.pinned (OpenSpec.ofChange fnSnakeCaseMatchesWordSplitModelWrong)

/-- 'zzlaws_root_b1.FnSnakeCaseUndoneOnPascalTags': WHATEVER THE INPUT: true; the input reads as it did. -/
def fnSnakeCaseUndoneOnPascalTagsSpec : ChangeSpec := { name := "fnSnakeCaseUndoneOnPascalTags", fn := fun _ => fun
  | [d] => { results := [.lit (.bool true)], args := [d] }
  | _ => none }
def fnSnakeCaseUndoneOnPascalTagsRow : OpenClaim := { program := "qxb6604008a", sum := "a473fd87ddda1c222ccf68e6fd3e1d60500d550e0e9a0bf1f3baf10043cf06d8", func := "example.com/arbora/arbora/zzlaws_root_b1.FnSnakeCaseUndoneOnPascalTags", spec := "fnSnakeCaseUndoneOnPascalTags", inPlace := ["internal/abi.NoEscape"], apart := false }
def FnSnakeCaseUndoneOnPascalTagsSaid : Prop := fnSnakeCaseUndoneOnPascalTagsRow.holds Try.pinned (OpenSpec.ofChange fnSnakeCaseUndoneOnPascalTagsSpec)

/-- ITS FALSE NEIGHBOUR: 'it returns false'. Refute it at one input. -/
def fnSnakeCaseUndoneOnPascalTagsWrong : ChangeSpec := { name := "fnSnakeCaseUndoneOnPascalTags", fn := fun _ => fun
  | [d] => { results := [.lit (.bool false)], args := [d] }
  | _ => none }
def FnSnakeCaseUndoneOnPascalTagsWrongFalsely : Prop := fnSnakeCaseUndoneOnPascalTagsRow.holds Try.pinned (OpenSpec.ofChange fnSnakeCaseUndoneOnPascalTagsWrong)

end Rows
end Go.Proofs.Qxb6604008a
