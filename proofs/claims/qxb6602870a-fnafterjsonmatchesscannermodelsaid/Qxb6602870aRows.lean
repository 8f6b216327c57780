/-
  No cell of these rows narrows 'for every input' (looked for: loops, veiled, ifaces, maps, wideKeys, modest, calm, conditions, laid).
  DERIVED. THE GIVEN ROWS OF THIS SEAT. 4 by the template 'for every input the law returns true; each argument reads behind the call as it read before'; 0 by the template 'total and deterministic' (their statements: Qxb6602870aTotals.lean).
  GIVEN WITH THE SEED: the statements are not yours to turn. If you find one false, say at which input.
  Laid BY PROGRAM, IN A SANDBOX (cutbox-rows.mjs): the forced cells as the released guide's own fill.sh prints them over the translation ddbb064ebf0bf38e… (all of the seat's roots in one cut). By AI agents, Wed Nov 11 2026. No macro, syntax, notation, axiom, sorry.
-/
import Derived.Test.Qxb6602870aChecked
import GoSem.Claim
import GoSem.ClaimJoined
import GoSem.ClaimMapViews
import Derived.JoinedTies
import Derived.KernelRfl
namespace Go.Proofs.Qxb6602870a
/- THE CELL 'sum', in the pinned program and in every row, IS THE sha256 OF THE DUMP (.gsa) THAT Qxb6602870aProg.lean LOADS. Nothing in Lean hashes anything: it is a label: what it is worth is what the hold of that sum in a sandbox is worth. -/
noncomputable def Try.pinned : Pinned := { name := "qxb6602870a", sum := "ddbb064ebf0bf38e76d5b2bb3d3831db058008194443763118fea0b976450db1", checked := Try.checked }
namespace Rows
def none {H : Type} : Left H := { results := [], args := [] }

/-- 'zzlaws_internal_chain_b1.FnAfterJSONMatchesScannerModel': WHATEVER THE INPUT: true; the input reads as it did. -/
def fnAfterJSONMatchesScannerModelSpec : ChangeSpec := { name := "fnAfterJSONMatchesScannerModel", fn := fun _ => fun
  | [d1, d2] => { results := [.lit (.bool true)], args := [d1, d2] }
  | _ => none }
def fnAfterJSONMatchesScannerModelRow : OpenClaim := { program := "qxb6602870a", sum := "ddbb064ebf0bf38e76d5b2bb3d3831db058008194443763118fea0b976450db1", func := "example.com/phidippides/phidippides/zzlaws_internal_chain_b1.FnAfterJSONMatchesScannerModel", spec := "fnAfterJSONMatchesScannerModel", inPlace := ["internal/bytealg.IndexByteString"], apart := false }
def FnAfterJSONMatchesScannerModelSaid : Prop := fnAfterJSONMatchesScannerModelRow.holds Try.pinned (OpenSpec.ofChange fnAfterJSONMatchesScannerModelSpec)

/-- ITS FALSE NEIGHBOUR: 'it returns false'. Refute it at one input. -/
def fnAfterJSONMatchesScannerModelWrong : ChangeSpec := { name := "fnAfterJSONMatchesScannerModel", fn := fun _ => fun
  | [d1, d2] => { results := [.lit (.bool false)], args := [d1, d2] }
  | _ => none }
def FnAfterJSONMatchesScannerModelWrongFalsely : Prop := fnAfterJSONMatchesScannerModelRow.holds Try.pinned (OpenSpec.ofChange fnAfterJSONMatchesScannerModelWrong)

/-- 'zzlaws_internal_chain_b1.FnAfterJSONSplitsAtAnyPoint': WHATEVER THE INPUT: true; the input reads as it did. -/
def fnAfterJSONSplitsAtAnyPointSpec : ChangeSpec := { name := "fnAfterJSONSplitsAtAnyPoint", fn := fun _ => fun
  | [d1, d2, d3] => { results := [.lit (.bool true)], args := [d1, d2, d3] }
  | _ => none }
def fnAfterJSONSplitsAtAnyPointRow : OpenClaim := { program := "qxb6602870a", sum := "ddbb064ebf0bf38e76d5b2bb3d3831db058008194443763118fea0b976450db1", func := "example.com/phidippides/phidippides/zzlaws_internal_chain_b1.FnAfterJSONSplitsAtAnyPoint", spec := "fnAfterJSONSplitsAtAnyPoint", inPlace := ["internal/bytealg.IndexByteString"], apart := false }
def FnAfterJSONSplitsAtAnyPointSaid : Prop := fnAfterJSONSplitsAtAnyPointRow.holds Try.pinned (OpenSpec.ofChange fnAfterJSONSplitsAtAnyPointSpec)

/-- ITS FALSE NEIGHBOUR: 'it returns false'. Refute it at one input. -/
def fnAfterJSONSplitsAtAnyPointWrong : ChangeSpec := { name := "fnAfterJSONSplitsAtAnyPoint", fn := fun _ => fun
  | [d1, d2, d3] => { results := [.lit (.bool false)], args := [d1, d2, d3] }
  | _ => none }
def FnAfterJSONSplitsAtAnyPointWrongFalsely : Prop := fnAfterJSONSplitsAtAnyPointRow.holds Try.pinned (OpenSpec.ofChange fnAfterJSONSplitsAtAnyPointWrong)

/-- 'zzlaws_internal_chain_b1.FnAfterMatchesLastMarkModel': WHATEVER THE INPUT: true; the input reads as it did. -/
def fnAfterMatchesLastMarkModelSpec : ChangeSpec := { name := "fnAfterMatchesLastMarkModel", fn := fun _ => fun
  | [d1, d2] => { results := [.lit (.bool true)], args := [d1, d2] }
  | _ => none }
def fnAfterMatchesLastMarkModelRow : OpenClaim := { program := "qxb6602870a", sum := "ddbb064ebf0bf38e76d5b2bb3d3831db058008194443763118fea0b976450db1", func := "example.com/phidippides/phidippides/zzlaws_internal_chain_b1.FnAfterMatchesLastMarkModel", spec := "fnAfterMatchesLastMarkModel", apart := false }
def FnAfterMatchesLastMarkModelSaid : Prop := fnAfterMatchesLastMarkModelRow.holds Try.pinned (OpenSpec.ofChange fnAfterMatchesLastMarkModelSpec)

/-- ITS FALSE NEIGHBOUR: 'it returns false'. Refute it at one input. -/
def fnAfterMatchesLastMarkModelWrong : ChangeSpec := { name := "fnAfterMatchesLastMarkModel", fn := fun _ => fun
  | [d1, d2] => { results := [.lit (.bool false)], args := [d1, d2] }
  | _ => none }
def FnAfterMatchesLastMarkModelWrongFalsely : Prop := fnAfterMatchesLastMarkModelRow.holds Try.pinned (OpenSpec.ofChange fnAfterMatchesLastMarkModelWrong)

/-- 'zzlaws_internal_chain_b1.FnAfterSplitsAtAnyPoint': WHATEVER THE INPUT: true; the input reads as it did. -/
def fnAfterSplitsAtAnyPointSpec : ChangeSpec := { name := "fnAfterSplitsAtAnyPoint", fn := fun _ => fun
  | [d1, d2, d3] => { results := [.lit (.bool true)], args := [d1, d2, d3] }
  | _ => none }
def fnAfterSplitsAtAnyPointRow : OpenClaim := { program := "qxb6602870a", sum := "ddbb064ebf0bf38e76d5b2bb3d3831db058008194443763118fea0b976450db1", func := "example.com/phidippides/phidippides/zzlaws_internal_chain_b1.FnAfterSplitsAtAnyPoint", spec := "fnAfterSplitsAtAnyPoint", apart := false }
def FnAfterSplitsAtAnyPointSaid : Prop := fnAfterSplitsAtAnyPointRow.holds Try.pinned (OpenSpec.ofChange fnAfterSplitsAtAnyPointSpec)

/-- ITS FALSE NEIGHBOUR: 'it returns false'. Refute it at one input. -/
def fnAfterSplitsAtAnyPointWrong : ChangeSpec := { name := "fnAfterSplitsAtAnyPoint", fn := fun _ => fun
  | [d1, d2, d3] => { results := [.lit (.bool false)], args := [d1, d2, d3] }
  | _ => none }
def FnAfterSplitsAtAnyPointWrongFalsely : Prop := fnAfterSplitsAtAnyPointRow.holds Try.pinned (OpenSpec.ofChange fnAfterSplitsAtAnyPointWrong)

end Rows
end Go.Proofs.Qxb6602870a
