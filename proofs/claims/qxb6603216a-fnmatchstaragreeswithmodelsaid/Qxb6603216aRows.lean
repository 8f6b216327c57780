/-
  No cell of these rows narrows 'for every input' (looked for: loops, veiled, ifaces, maps, wideKeys, modest, calm, conditions, laid).
  DERIVED. THE GIVEN ROWS OF THIS SEAT. 6 by the template 'for every input the law returns true; each argument reads behind the call as it read before'; 0 by the template 'total and deterministic' (their statements: Qxb6603216aTotals.lean).
  GIVEN WITH THE SEED: the statements are not yours to turn. If you find one false, say at which input.
  Laid BY PROGRAM, IN A SANDBOX (cutbox-rows.mjs): the forced cells as the released guide's own fill.sh prints them over the translation e58035d2c30c3d1e… (all of the seat's roots in one cut). By AI agents, Wed Nov 11 2026. No macro, syntax, notation, axiom, sorry.
-/
import Derived.Test.Qxb6603216aChecked
import GoSem.Claim
import GoSem.ClaimJoined
import GoSem.ClaimMapViews
import Derived.JoinedTies
import Derived.KernelRfl
namespace Go.Proofs.Qxb6603216a
/- THE CELL 'sum', in the pinned program and in every row, IS THE sha256 OF THE DUMP (.gsa) THAT Qxb6603216aProg.lean LOADS. Nothing in Lean hashes anything: it is a label: what it is worth is what the hold of that sum in a sandbox is worth. -/
noncomputable def Try.pinned : Pinned := { name := "qxb6603216a", sum := "e58035d2c30c3d1e4cd767b79281b341639b5d5202531ce1b1dce40475969980", checked := Try.checked }
namespace Rows
def none {H : Type} : Left H := { results := [], args := [] }

/-- 'zzlaws_ignore_b1.FnMatchAgreesWithModel': WHATEVER THE INPUT: true; the input reads as it did. -/
def fnMatchAgreesWithModelSpec : ChangeSpec := { name := "fnMatchAgreesWithModel", fn := fun _ => fun
  | [d1, d2] => { results := [.lit (.bool true)], args := [d1, d2] }
  | _ => none }
def fnMatchAgreesWithModelRow : OpenClaim := { program := "qxb6603216a", sum := "e58035d2c30c3d1e4cd767b79281b341639b5d5202531ce1b1dce40475969980", func := "example.com/starling/starling/zzlaws_ignore_b1.FnMatchAgreesWithModel", spec := "fnMatchAgreesWithModel", inPlace := ["internal/bytealg.IndexByteString", "internal/bytealg.IndexString"], recurses := true, named := ["internal/bytealg.MaxLen"], apart := false }
def FnMatchAgreesWithModelSaid : Prop := fnMatchAgreesWithModelRow.holds Try.pinned (OpenSpec.ofChange fnMatchAgreesWithModelSpec)

/-- ITS FALSE NEIGHBOUR: 'it returns false'. Refute it at one input. -/
def fnMatchAgreesWithModelWrong : ChangeSpec := { name := "fnMatchAgreesWithModel", fn := fun _ => fun
  | [d1, d2] => { results := [.lit (.bool false)], args := [d1, d2] }
  | _ => none }
def FnMatchAgreesWithModelWrongFalsely : Prop := fnMatchAgreesWithModelRow.holds Try.pinned (OpenSpec.ofChange fnMatchAgreesWithModelWrong)

/-- 'zzlaws_ignore_b1.FnMatchGiveUpIsSound': WHATEVER THE INPUT: true; the input reads as it did. -/
def fnMatchGiveUpIsSoundSpec : ChangeSpec := { name := "fnMatchGiveUpIsSound", fn := fun _ => fun
  | [d1, d2] => { results := [.lit (.bool true)], args := [d1, d2] }
  | _ => none }
def fnMatchGiveUpIsSoundRow : OpenClaim := { program := "qxb6603216a", sum := "e58035d2c30c3d1e4cd767b79281b341639b5d5202531ce1b1dce40475969980", func := "example.com/starling/starling/zzlaws_ignore_b1.FnMatchGiveUpIsSound", spec := "fnMatchGiveUpIsSound", inPlace := ["internal/bytealg.IndexByteString", "internal/bytealg.IndexString"], recurses := true, named := ["internal/bytealg.MaxLen"], apart := false }
def FnMatchGiveUpIsSoundSaid : Prop := fnMatchGiveUpIsSoundRow.holds Try.pinned (OpenSpec.ofChange fnMatchGiveUpIsSoundSpec)

/-- ITS FALSE NEIGHBOUR: 'it returns false'. Refute it at one input. -/
def fnMatchGiveUpIsSoundWrong : ChangeSpec := { name := "fnMatchGiveUpIsSound", fn := fun _ => fun
  | [d1, d2] => { results := [.lit (.bool false)], args := [d1, d2] }
  | _ => none }
def FnMatchGiveUpIsSoundWrongFalsely : Prop := fnMatchGiveUpIsSoundRow.holds Try.pinned (OpenSpec.ofChange fnMatchGiveUpIsSoundWrong)

/-- 'zzlaws_ignore_b1.FnMatchStarAgreesWithModel': WHATEVER THE INPUT: true; the input reads as it did. -/
def fnMatchStarAgreesWithModelSpec : ChangeSpec := { name := "fnMatchStarAgreesWithModel", fn := fun _ => fun
  | [d1, d2, d3] => { results := [.lit (.bool true)], args := [d1, d2, d3] }
  | _ => none }
def fnMatchStarAgreesWithModelRow : OpenClaim := { program := "qxb6603216a", sum := "e58035d2c30c3d1e4cd767b79281b341639b5d5202531ce1b1dce40475969980", func := "example.com/starling/starling/zzlaws_ignore_b1.FnMatchStarAgreesWithModel", spec := "fnMatchStarAgreesWithModel", inPlace := ["internal/bytealg.IndexByteString", "internal/bytealg.IndexString"], recurses := true, named := ["internal/bytealg.MaxLen"], apart := false }
def FnMatchStarAgreesWithModelSaid : Prop := fnMatchStarAgreesWithModelRow.holds Try.pinned (OpenSpec.ofChange fnMatchStarAgreesWithModelSpec)

/-- ITS FALSE NEIGHBOUR: 'it returns false'. Refute it at one input. -/
def fnMatchStarAgreesWithModelWrong : ChangeSpec := { name := "fnMatchStarAgreesWithModel", fn := fun _ => fun
  | [d1, d2, d3] => { results := [.lit (.bool false)], args := [d1, d2, d3] }
  | _ => none }
def FnMatchStarAgreesWithModelWrongFalsely : Prop := fnMatchStarAgreesWithModelRow.holds Try.pinned (OpenSpec.ofChange fnMatchStarAgreesWithModelWrong)

/-- 'zzlaws_ignore_b1.FnMatchStarDoubleCoversSingle': WHATEVER THE INPUT: true; the input reads as it did. -/
def fnMatchStarDoubleCoversSingleSpec : ChangeSpec := { name := "fnMatchStarDoubleCoversSingle", fn := fun _ => fun
  | [d1, d2] => { results := [.lit (.bool true)], args := [d1, d2] }
  | _ => none }
def fnMatchStarDoubleCoversSingleRow : OpenClaim := { program := "qxb6603216a", sum := "e58035d2c30c3d1e4cd767b79281b341639b5d5202531ce1b1dce40475969980", func := "example.com/starling/starling/zzlaws_ignore_b1.FnMatchStarDoubleCoversSingle", spec := "fnMatchStarDoubleCoversSingle", inPlace := ["internal/bytealg.IndexByteString", "internal/bytealg.IndexString"], recurses := true, named := ["internal/bytealg.MaxLen"], apart := false }
def FnMatchStarDoubleCoversSingleSaid : Prop := fnMatchStarDoubleCoversSingleRow.holds Try.pinned (OpenSpec.ofChange fnMatchStarDoubleCoversSingleSpec)

/-- ITS FALSE NEIGHBOUR: 'it returns false'. Refute it at one input. -/
def fnMatchStarDoubleCoversSingleWrong : ChangeSpec := { name := "fnMatchStarDoubleCoversSingle", fn := fun _ => fun
  | [d1, d2] => { results := [.lit (.bool false)], args := [d1, d2] }
  | _ => none }
def FnMatchStarDoubleCoversSingleWrongFalsely : Prop := fnMatchStarDoubleCoversSingleRow.holds Try.pinned (OpenSpec.ofChange fnMatchStarDoubleCoversSingleWrong)

/-- 'zzlaws_ignore_b1.FnTrimSpacesAgreesWithRightScan': WHATEVER THE INPUT: true; the input reads as it did. -/
def fnTrimSpacesAgreesWithRightScanSpec : ChangeSpec := { name := "fnTrimSpacesAgreesWithRightScan", fn := fun _ => fun
  | [d] => { results := [.lit (.bool true)], args := [d] }
  | _ => none }
def fnTrimSpacesAgreesWithRightScanRow : OpenClaim := { program := "qxb6603216a", sum := "e58035d2c30c3d1e4cd767b79281b341639b5d5202531ce1b1dce40475969980", func := "example.com/starling/starling/zzlaws_ignore_b1.FnTrimSpacesAgreesWithRightScan", spec := "fnTrimSpacesAgreesWithRightScan", apart := false }
def FnTrimSpacesAgreesWithRightScanSaid : Prop := fnTrimSpacesAgreesWithRightScanRow.holds Try.pinned (OpenSpec.ofChange fnTrimSpacesAgreesWithRightScanSpec)

/-- ITS FALSE NEIGHBOUR: 'it returns false'. Refute it at one input. -/
def fnTrimSpacesAgreesWithRightScanWrong : ChangeSpec := { name := "fnTrimSpacesAgreesWithRightScan", fn := fun _ => fun
  | [d] => { results := [.lit (.bool false)], args := [d] }
  | _ => none }
def FnTrimSpacesAgreesWithRightScanWrongFalsely : Prop := fnTrimSpacesAgreesWithRightScanRow.holds Try.pinned (OpenSpec.ofChange fnTrimSpacesAgreesWithRightScanWrong)

/-- 'zzlaws_ignore_b1.FnTrimSpacesIdempotentCutsOnlySpaces': WHATEVER THE INPUT: true; the input reads as it did. -/
def fnTrimSpacesIdempotentCutsOnlySpacesSpec : ChangeSpec := { name := "fnTrimSpacesIdempotentCutsOnlySpaces", fn := fun _ => fun
  | [d] => { results := [.lit (.bool true)], args := [d] }
  | _ => none }
def fnTrimSpacesIdempotentCutsOnlySpacesRow : OpenClaim := { program := "qxb6603216a", sum := "e58035d2c30c3d1e4cd767b79281b341639b5d5202531ce1b1dce40475969980", func := "example.com/starling/starling/zzlaws_ignore_b1.FnTrimSpacesIdempotentCutsOnlySpaces", spec := "fnTrimSpacesIdempotentCutsOnlySpaces", apart := false }
def FnTrimSpacesIdempotentCutsOnlySpacesSaid : Prop := fnTrimSpacesIdempotentCutsOnlySpacesRow.holds Try.pinned (OpenSpec.ofChange fnTrimSpacesIdempotentCutsOnlySpacesSpec)

/-- ITS FALSE NEIGHBOUR: 'it returns false'. Refute it at one input. -/
def fnTrimSpacesIdempotentCutsOnlySpacesWrong : ChangeSpec := { name := "fnTrimSpacesIdempotentCutsOnlySpaces", fn := fun _ => fun
  | [d] => { results := [.lit (.bool false)], args := [d] }
  | _ => none }
def FnTrimSpacesIdempotentCutsOnlySpacesWrongFalsely : Prop := fnTrimSpacesIdempotentCutsOnlySpacesRow.holds Try.pinned (OpenSpec.ofChange fnTrimSpacesIdempotentCutsOnlySpacesWrong)

end Rows
end Go.Proofs.Qxb6603216a
