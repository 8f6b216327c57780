/-
  No cell of these rows narrows 'for every input' (looked for: loops, veiled, ifaces, maps, wideKeys, modest, calm, conditions, laid).
  DERIVED. THE GIVEN ROWS OF THIS SEAT. 3 by the template 'for every input the law returns true; each argument reads behind the call as it read before'; 0 by the template 'total and deterministic' (their statements: Qxb6601854aTotals.lean).
  GIVEN WITH THE SEED: the statements are not yours to turn. If you find one false, say at which input.
  Laid BY PROGRAM, IN A SANDBOX (cutbox-rows.mjs): the forced cells as the released guide's own fill.sh prints them over the translation 9ca50b92cec58e9d… (all of the seat's roots in one cut). By AI agents, Wed Nov 11 2026. No macro, syntax, notation, axiom, sorry.
-/
import Derived.Test.Qxb6601854aChecked
import GoSem.Claim
import GoSem.ClaimJoined
import GoSem.ClaimMapViews
import Derived.JoinedTies
import Derived.KernelRfl
namespace Go.Proofs.Qxb6601854a
/- THE CELL 'sum', in the pinned program and in every row, IS THE sha256 OF THE DUMP (.gsa) THAT Qxb6601854aProg.lean LOADS. Nothing in Lean hashes anything: it is a label: what it is worth is what the hold of that sum in a sandbox is worth. -/
noncomputable def Try.pinned : Pinned := { name := "qxb6601854a", sum := "9ca50b92cec58e9d2f5c9e6bcd02a9b90f71fabfa6641917f5029d82ac581c83", checked := Try.checked }
namespace Rows
def none {H : Type} : Left H := { results := [], args := [] }

/-- 'zzlaws_internal_composition_b1.FnValueEndIgnoresSurroundings': WHATEVER THE INPUT: true; the input reads as it did. -/
def fnValueEndIgnoresSurroundingsSpec : ChangeSpec := { name := "fnValueEndIgnoresSurroundings", fn := fun _ => fun
  | [d1, d2, d3, d4] => { results := [.lit (.bool true)], args := [d1, d2, d3, d4] }
  | _ => none }
def fnValueEndIgnoresSurroundingsRow : OpenClaim := { program := "qxb6601854a", sum := "9ca50b92cec58e9d2f5c9e6bcd02a9b90f71fabfa6641917f5029d82ac581c83", func := "example.com/amends/amends/zzlaws_internal_composition_b1.FnValueEndIgnoresSurroundings", spec := "fnValueEndIgnoresSurroundings", inPlace := ["internal/bytealg.IndexByteString", "internal/bytealg.IndexString"], recurses := true, named := ["internal/bytealg.MaxLen"], apart := false }
def FnValueEndIgnoresSurroundingsSaid : Prop := fnValueEndIgnoresSurroundingsRow.holds Try.pinned (OpenSpec.ofChange fnValueEndIgnoresSurroundingsSpec)

/-- ITS FALSE NEIGHBOUR: 'it returns false'. Refute it at one input. -/
def fnValueEndIgnoresSurroundingsWrong : ChangeSpec := { name := "fnValueEndIgnoresSurroundings", fn := fun _ => fun
  | [d1, d2, d3, d4] => { results := [.lit (.bool false)], args := [d1, d2, d3, d4] }
  | _ => none }
def FnValueEndIgnoresSurroundingsWrongFalsely : Prop := fnValueEndIgnoresSurroundingsRow.holds Try.pinned (OpenSpec.ofChange fnValueEndIgnoresSurroundingsWrong)

/-- 'zzlaws_internal_composition_b1.FnValueStartCharacterised': WHATEVER THE INPUT: true; the input reads as it did. -/
def fnValueStartCharacterisedSpec : ChangeSpec := { name := "fnValueStartCharacterised", fn := fun _ => fun
  | [d1, d2] => { results := [.lit (.bool true)], args := [d1, d2] }
  | _ => none }
def fnValueStartCharacterisedRow : OpenClaim := { program := "qxb6601854a", sum := "9ca50b92cec58e9d2f5c9e6bcd02a9b90f71fabfa6641917f5029d82ac581c83", func := "example.com/amends/amends/zzlaws_internal_composition_b1.FnValueStartCharacterised", spec := "fnValueStartCharacterised", inPlace := ["internal/bytealg.IndexByteString", "internal/bytealg.IndexString"], named := ["internal/bytealg.MaxLen"], apart := false }
def FnValueStartCharacterisedSaid : Prop := fnValueStartCharacterisedRow.holds Try.pinned (OpenSpec.ofChange fnValueStartCharacterisedSpec)

/-- ITS FALSE NEIGHBOUR: 'it returns false'. Refute it at one input. -/
def fnValueStartCharacterisedWrong : ChangeSpec := { name := "fnValueStartCharacterised", fn := fun _ => fun
  | [d1, d2] => { results := [.lit (.bool false)], args := [d1, d2] }
  | _ => none }
def FnValueStartCharacterisedWrongFalsely : Prop := fnValueStartCharacterisedRow.holds Try.pinned (OpenSpec.ofChange fnValueStartCharacterisedWrong)

/-- 'zzlaws_internal_composition_b1.FnValueStartShift': WHATEVER THE INPUT: true; the input reads as it did. -/
def fnValueStartShiftSpec : ChangeSpec := { name := "fnValueStartShift", fn := fun _ => fun
  | [d1, d2, d3, d4] => { results := [.lit (.bool true)], args := [d1, d2, d3, d4] }
  | _ => none }
def fnValueStartShiftRow : OpenClaim := { program := "qxb6601854a", sum := "9ca50b92cec58e9d2f5c9e6bcd02a9b90f71fabfa6641917f5029d82ac581c83", func := "example.com/amends/amends/zzlaws_internal_composition_b1.FnValueStartShift", spec := "fnValueStartShift", inPlace := ["internal/bytealg.IndexByteString", "internal/bytealg.IndexString"], named := ["internal/bytealg.MaxLen"], apart := false }
def FnValueStartShiftSaid : Prop := fnValueStartShiftRow.holds Try.pinned (OpenSpec.ofChange fnValueStartShiftSpec)

/-- ITS FALSE NEIGHBOUR: 'it returns false'. Refute it at one input. -/
def fnValueStartShiftWrong : ChangeSpec := { name := "fnValueStartShift", fn := fun _ => fun
  | [d1, d2, d3, d4] => { results := [.lit (.bool false)], args := [d1, d2, d3, d4] }
  | _ => none }
def FnValueStartShiftWrongFalsely : Prop := fnValueStartShiftRow.holds Try.pinned (OpenSpec.ofChange fnValueStartShiftWrong)

end Rows
end Go.Proofs.Qxb6601854a
