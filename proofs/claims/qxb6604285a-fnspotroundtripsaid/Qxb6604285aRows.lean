/-
  No cell of these rows narrows 'for every input' (looked for: loops, veiled, ifaces, maps, wideKeys, modest, calm, conditions, laid).
  DERIVED. THE GIVEN ROWS OF THIS SEAT. 3 by the template 'for every input the law returns true; each argument reads behind the call as it read before'; 0 by the template 'total and deterministic' (their statements: Qxb6604285aTotals.lean).
  GIVEN WITH THE SEED: the statements are not yours to turn. If you find one false, say at which input.
  Laid BY PROGRAM, IN A SANDBOX (cutbox-rows.mjs): the forced cells as the released guide's own fill.sh prints them over the translation b13dcc2a6c0f12ce… (all of the seat's roots in one cut). By AI agents, Wed Nov 11 2026. No macro, syntax, notation, axiom, sorry.
-/
import Derived.Test.Qxb6604285aChecked
import GoSem.Claim
import GoSem.ClaimJoined
import GoSem.ClaimMapViews
import Derived.JoinedTies
import Derived.KernelRfl
namespace Go.Proofs.Qxb6604285a
/- THE CELL 'sum', in the pinned program and in every row, IS THE sha256 OF THE DUMP (.gsa) THAT Qxb6604285aProg.lean LOADS. Nothing in Lean hashes anything: it is a label: what it is worth is what the hold of that sum in a sandbox is worth. -/
noncomputable def Try.pinned : Pinned := { name := "qxb6604285a", sum := "b13dcc2a6c0f12ce23e4d624aa7fd24882553ebd33b481fbeffaaf48fb6b8be2", checked := Try.checked }
namespace Rows
def none {H : Type} : Left H := { results := [], args := [] }

/-- 'zzlaws_root_b1.FnSpotExact': WHATEVER THE INPUT: true; the input reads as it did. -/
def fnSpotExactSpec : ChangeSpec := { name := "fnSpotExact", fn := fun _ => fun
  | [d] => { results := [.lit (.bool true)], args := [d] }
  | _ => none }
def fnSpotExactRow : OpenClaim := { program := "qxb6604285a", sum := "b13dcc2a6c0f12ce23e4d624aa7fd24882553ebd33b481fbeffaaf48fb6b8be2", func := "example.com/overlace/overlace/zzlaws_root_b1.FnSpotExact", spec := "fnSpotExact", apart := false }
def FnSpotExactSaid : Prop := fnSpotExactRow.holds Try.pinned (OpenSpec.ofChange fnSpotExactSpec)

/-- ITS FALSE NEIGHBOUR: 'it returns false'. Refute it at one input. -/
def fnSpotExactWrong : ChangeSpec := { name := "fnSpotExact", fn := fun _ => fun
  | [d] => { results := [.lit (.bool false)], args := [d] }
  | _ => none }
def FnSpotExactWrongFalsely : Prop := fnSpotExactRow.holds Try.pinned (OpenSpec.ofChange fnSpotExactWrong)

/-- 'zzlaws_root_b1.FnSpotRoundTrip': WHATEVER THE INPUT: true; the input reads as it did. -/
def fnSpotRoundTripSpec : ChangeSpec := { name := "fnSpotRoundTrip", fn := fun _ => fun
  | [d] => { results := [.lit (.bool true)], args := [d] }
  | _ => none }
def fnSpotRoundTripRow : OpenClaim := { program := "qxb6604285a", sum := "b13dcc2a6c0f12ce23e4d624aa7fd24882553ebd33b481fbeffaaf48fb6b8be2", func := "example.com/overlace/overlace/zzlaws_root_b1.FnSpotRoundTrip", spec := "fnSpotRoundTrip", apart := false }
def FnSpotRoundTripSaid : Prop := fnSpotRoundTripRow.holds Try.pinned (OpenSpec.ofChange fnSpotRoundTripSpec)

/-- ITS FALSE NEIGHBOUR: 'it returns false'. Refute it at one input. -/
def fnSpotRoundTripWrong : ChangeSpec := { name := "fnSpotRoundTrip", fn := fun _ => fun
  | [d] => { results := [.lit (.bool false)], args := [d] }
  | _ => none }
def FnSpotRoundTripWrongFalsely : Prop := fnSpotRoundTripRow.holds Try.pinned (OpenSpec.ofChange fnSpotRoundTripWrong)

/-- 'zzlaws_root_b1.FnNewerTrichotomy': WHATEVER THE INPUT: true; the input reads as it did. -/
def fnNewerTrichotomySpec : ChangeSpec := { name := "fnNewerTrichotomy", fn := fun _ => fun
  | [d1, d2, d3, d4] => { results := [.lit (.bool true)], args := [d1, d2, d3, d4] }
  | _ => none }
def fnNewerTrichotomyRow : OpenClaim := { program := "qxb6604285a", sum := "b13dcc2a6c0f12ce23e4d624aa7fd24882553ebd33b481fbeffaaf48fb6b8be2", func := "example.com/overlace/overlace/zzlaws_root_b1.FnNewerTrichotomy", spec := "fnNewerTrichotomy", inPlace := ["internal/bytealg.Compare"], apart := false }
def FnNewerTrichotomySaid : Prop := fnNewerTrichotomyRow.holds Try.pinned (OpenSpec.ofChange fnNewerTrichotomySpec)

/-- ITS FALSE NEIGHBOUR: 'it returns false'. Refute it at one input. -/
def fnNewerTrichotomyWrong : ChangeSpec := { name := "fnNewerTrichotomy", fn := fun _ => fun
  | [d1, d2, d3, d4] => { results := [.lit (.bool false)], args := [d1, d2, d3, d4] }
  | _ => none }
def FnNewerTrichotomyWrongFalsely : Prop := fnNewerTrichotomyRow.holds Try.pinned (OpenSpec.ofChange fnNewerTrichotomyWrong)

end Rows
end Go.Proofs.Qxb6604285a
