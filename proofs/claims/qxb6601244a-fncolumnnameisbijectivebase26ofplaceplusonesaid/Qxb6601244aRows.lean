/-
  No cell of these rows narrows 'for every input' (looked for: loops, veiled, ifaces, maps, wideKeys, modest, calm, conditions, laid).
  DERIVED. THE GIVEN ROWS OF THIS SEAT. 3 by the template 'for every input the law returns true; each argument reads behind the call as it read before'; 0 by the template 'total and deterministic' (their statements: Qxb6601244aTotals.lean).
  GIVEN WITH THE SEED: the statements are not yours to turn. If you find one false, say at which input.
  Laid BY PROGRAM, IN A SANDBOX (cutbox-rows.mjs): the forced cells as the released guide's own fill.sh prints them over the translation ee849622b1ad2499… (all of the seat's roots in one cut). By AI agents, Wed Nov 11 2026. No macro, syntax, notation, axiom, sorry.
-/
import Derived.Test.Qxb6601244aChecked
import GoSem.Claim
import GoSem.ClaimJoined
import GoSem.ClaimMapViews
import Derived.JoinedTies
import Derived.KernelRfl
namespace Go.Proofs.Qxb6601244a
/- THE CELL 'sum', in the pinned program and in every row, IS THE sha256 OF THE DUMP (.gsa) THAT Qxb6601244aProg.lean LOADS. Nothing in Lean hashes anything: it is a label: what it is worth is what the hold of that sum in a sandbox is worth. -/
noncomputable def Try.pinned : Pinned := { name := "qxb6601244a", sum := "ee849622b1ad2499bacc8bceda0d3d969ab4bef610cd734bd93c68c61fd5cd55", checked := Try.checked }
namespace Rows
def none {H : Type} : Left H := { results := [], args := [] }

/-- 'zzlaws_internal_xlsx_b1.FnColumnNameIsBijectiveBase26OfPlacePlusOne': WHATEVER THE INPUT: true; the input reads as it did. -/
def fnColumnNameIsBijectiveBase26OfPlacePlusOneSpec : ChangeSpec := { name := "fnColumnNameIsBijectiveBase26OfPlacePlusOne", fn := fun _ => fun
  | [d] => { results := [.lit (.bool true)], args := [d] }
  | _ => none }
def fnColumnNameIsBijectiveBase26OfPlacePlusOneRow : OpenClaim := { program := "qxb6601244a", sum := "ee849622b1ad2499bacc8bceda0d3d969ab4bef610cd734bd93c68c61fd5cd55", func := "example.com/stakewright/stakewright/zzlaws_internal_xlsx_b1.FnColumnNameIsBijectiveBase26OfPlacePlusOne", spec := "fnColumnNameIsBijectiveBase26OfPlacePlusOne", apart := false }
def FnColumnNameIsBijectiveBase26OfPlacePlusOneSaid : Prop := fnColumnNameIsBijectiveBase26OfPlacePlusOneRow.holds Try.pinned (OpenSpec.ofChange fnColumnNameIsBijectiveBase26OfPlacePlusOneSpec)

/-- ITS FALSE NEIGHBOUR: 'it returns false'. Refute it at one input. -/
def fnColumnNameIsBijectiveBase26OfPlacePlusOneWrong : ChangeSpec := { name := "fnColumnNameIsBijectiveBase26OfPlacePlusOne", fn := fun _ => fun
  | [d] => { results := [.lit (.bool false)], args := [d] }
  | _ => none }
def FnColumnNameIsBijectiveBase26OfPlacePlusOneWrongFalsely : Prop := fnColumnNameIsBijectiveBase26OfPlacePlusOneRow.holds Try.pinned (OpenSpec.ofChange fnColumnNameIsBijectiveBase26OfPlacePlusOneWrong)

/-- 'zzlaws_internal_xlsx_b1.FnColumnNameOrdersAsPlaces': WHATEVER THE INPUT: true; the input reads as it did. -/
def fnColumnNameOrdersAsPlacesSpec : ChangeSpec := { name := "fnColumnNameOrdersAsPlaces", fn := fun _ => fun
  | [d1, d2] => { results := [.lit (.bool true)], args := [d1, d2] }
  | _ => none }
def fnColumnNameOrdersAsPlacesRow : OpenClaim := { program := "qxb6601244a", sum := "ee849622b1ad2499bacc8bceda0d3d969ab4bef610cd734bd93c68c61fd5cd55", func := "example.com/stakewright/stakewright/zzlaws_internal_xlsx_b1.FnColumnNameOrdersAsPlaces", spec := "fnColumnNameOrdersAsPlaces", apart := false }
def FnColumnNameOrdersAsPlacesSaid : Prop := fnColumnNameOrdersAsPlacesRow.holds Try.pinned (OpenSpec.ofChange fnColumnNameOrdersAsPlacesSpec)

/-- ITS FALSE NEIGHBOUR: 'it returns false'. Refute it at one input. -/
def fnColumnNameOrdersAsPlacesWrong : ChangeSpec := { name := "fnColumnNameOrdersAsPlaces", fn := fun _ => fun
  | [d1, d2] => { results := [.lit (.bool false)], args := [d1, d2] }
  | _ => none }
def FnColumnNameOrdersAsPlacesWrongFalsely : Prop := fnColumnNameOrdersAsPlacesRow.holds Try.pinned (OpenSpec.ofChange fnColumnNameOrdersAsPlacesWrong)

/-- 'zzlaws_internal_xlsx_b1.FnReadsAsEscapeLooksAtSevenBytes': WHATEVER THE INPUT: true; the input reads as it did. -/
def fnReadsAsEscapeLooksAtSevenBytesSpec : ChangeSpec := { name := "fnReadsAsEscapeLooksAtSevenBytes", fn := fun _ => fun
  | [d1, d2] => { results := [.lit (.bool true)], args := [d1, d2] }
  | _ => none }
def fnReadsAsEscapeLooksAtSevenBytesRow : OpenClaim := { program := "qxb6601244a", sum := "ee849622b1ad2499bacc8bceda0d3d969ab4bef610cd734bd93c68c61fd5cd55", func := "example.com/stakewright/stakewright/zzlaws_internal_xlsx_b1.FnReadsAsEscapeLooksAtSevenBytes", spec := "fnReadsAsEscapeLooksAtSevenBytes", apart := false }
def FnReadsAsEscapeLooksAtSevenBytesSaid : Prop := fnReadsAsEscapeLooksAtSevenBytesRow.holds Try.pinned (OpenSpec.ofChange fnReadsAsEscapeLooksAtSevenBytesSpec)

/-- ITS FALSE NEIGHBOUR: 'it returns false'. Refute it at one input. -/
def fnReadsAsEscapeLooksAtSevenBytesWrong : ChangeSpec := { name := "fnReadsAsEscapeLooksAtSevenBytes", fn := fun _ => fun
  | [d1, d2] => { results := [.lit (.bool false)], args := [d1, d2] }
  | _ => none }
def FnReadsAsEscapeLooksAtSevenBytesWrongFalsely : Prop := fnReadsAsEscapeLooksAtSevenBytesRow.holds Try.pinned (OpenSpec.ofChange fnReadsAsEscapeLooksAtSevenBytesWrong)

end Rows
end Go.Proofs.Qxb6601244a
