/-
  No cell of these rows narrows 'for every input' (looked for: loops, veiled, ifaces, maps, wideKeys, modest, calm, conditions, laid).
  DERIVED. THE GIVEN ROWS OF THIS SEAT. 6 by the template 'for every input the law returns true; each argument reads behind the call as it read before'; 0 by the template 'total and deterministic' (their statements: Qxb6602322aTotals.lean).
  GIVEN WITH THE SEED: the statements are not yours to turn. If you find one false, say at which input.
  Laid BY PROGRAM, IN A SANDBOX (cutbox-rows.mjs): the forced cells as the released guide's own fill.sh prints them over the translation e60e13803d3ead7f… (all of the seat's roots in one cut). By AI agents, Wed Nov 11 2026. No macro, syntax, notation, axiom, sorry.
-/
import Derived.Test.Qxb6602322aChecked
import GoSem.Claim
import GoSem.ClaimJoined
import GoSem.ClaimMapViews
import Derived.JoinedTies
import Derived.KernelRfl
namespace Go.Proofs.Qxb6602322a
/- THE CELL 'sum', in the pinned program and in every row, IS THE sha256 OF THE DUMP (.gsa) THAT Qxb6602322aProg.lean LOADS. Nothing in Lean hashes anything: it is a label: what it is worth is what the hold of that sum in a sandbox is worth. -/
noncomputable def Try.pinned : Pinned := { name := "qxb6602322a", sum := "e60e13803d3ead7f3fa60bbbf0e292f503f30f4461d5d1dbc4c921888bcf2587", checked := Try.checked }
namespace Rows
def none {H : Type} : Left H := { results := [], args := [] }

/-- 'zzlaws_root_b1.FnReadUintMatchesCheckedDecimal': WHATEVER THE INPUT: true; the input reads as it did. -/
def fnReadUintMatchesCheckedDecimalSpec : ChangeSpec := { name := "fnReadUintMatchesCheckedDecimal", fn := fun _ => fun
  | [d1, d2] => { results := [.lit (.bool true)], args := [d1, d2] }
  | _ => none }
def fnReadUintMatchesCheckedDecimalRow : OpenClaim := { program := "qxb6602322a", sum := "e60e13803d3ead7f3fa60bbbf0e292f503f30f4461d5d1dbc4c921888bcf2587", func := "example.com/strata-kv/strata-kv/zzlaws_root_b1.FnReadUintMatchesCheckedDecimal", spec := "fnReadUintMatchesCheckedDecimal", apart := false }
def FnReadUintMatchesCheckedDecimalSaid : Prop := fnReadUintMatchesCheckedDecimalRow.holds Try.pinned (OpenSpec.ofChange fnReadUintMatchesCheckedDecimalSpec)

/-- ITS FALSE NEIGHBOUR: 'it returns false'. Refute it at one input. -/
def fnReadUintMatchesCheckedDecimalWrong : ChangeSpec := { name := "fnReadUintMatchesCheckedDecimal", fn := fun _ => fun
  | [d1, d2] => { results := [.lit (.bool false)], args := [d1, d2] }
  | _ => none }
def FnReadUintMatchesCheckedDecimalWrongFalsely : Prop := fnReadUintMatchesCheckedDecimalRow.holds Try.pinned (OpenSpec.ofChange fnReadUintMatchesCheckedDecimalWrong)

/-- 'zzlaws_root_b1.FnReadUintReadsBackDecimal': WHATEVER THE INPUT: true; the input reads as it did. -/
def fnReadUintReadsBackDecimalSpec : ChangeSpec := { name := "fnReadUintReadsBackDecimal", fn := fun _ => fun
  | [d1, d2, d3] => { results := [.lit (.bool true)], args := [d1, d2, d3] }
  | _ => none }
def fnReadUintReadsBackDecimalRow : OpenClaim := { program := "qxb6602322a", sum := "e60e13803d3ead7f3fa60bbbf0e292f503f30f4461d5d1dbc4c921888bcf2587", func := "example.com/strata-kv/strata-kv/zzlaws_root_b1.FnReadUintReadsBackDecimal", spec := "fnReadUintReadsBackDecimal", apart := false }
def FnReadUintReadsBackDecimalSaid : Prop := fnReadUintReadsBackDecimalRow.holds Try.pinned (OpenSpec.ofChange fnReadUintReadsBackDecimalSpec)

/-- ITS FALSE NEIGHBOUR: 'it returns false'. Refute it at one input. -/
def fnReadUintReadsBackDecimalWrong : ChangeSpec := { name := "fnReadUintReadsBackDecimal", fn := fun _ => fun
  | [d1, d2, d3] => { results := [.lit (.bool false)], args := [d1, d2, d3] }
  | _ => none }
def FnReadUintReadsBackDecimalWrongFalsely : Prop := fnReadUintReadsBackDecimalRow.holds Try.pinned (OpenSpec.ofChange fnReadUintReadsBackDecimalWrong)

/-- 'zzlaws_root_b1.FnReadBlockIDsMatchesStateMachine': WHATEVER THE INPUT: true; the input reads as it did. -/
def fnReadBlockIDsMatchesStateMachineSpec : ChangeSpec := { name := "fnReadBlockIDsMatchesStateMachine", fn := fun _ => fun
  | [d1, d2] => { results := [.lit (.bool true)], args := [d1, d2] }
  | _ => none }
def fnReadBlockIDsMatchesStateMachineRow : OpenClaim := { program := "qxb6602322a", sum := "e60e13803d3ead7f3fa60bbbf0e292f503f30f4461d5d1dbc4c921888bcf2587", func := "example.com/strata-kv/strata-kv/zzlaws_root_b1.FnReadBlockIDsMatchesStateMachine", spec := "fnReadBlockIDsMatchesStateMachine", inPlace := ["internal/bytealg.IndexByte", "internal/bytealg.Count", "internal/bytealg.Index"], named := ["internal/bytealg.MaxLen"], apart := false }
def FnReadBlockIDsMatchesStateMachineSaid : Prop := fnReadBlockIDsMatchesStateMachineRow.holds Try.pinned (OpenSpec.ofChange fnReadBlockIDsMatchesStateMachineSpec)

/-- ITS FALSE NEIGHBOUR: 'it returns false'. Refute it at one input. -/
def fnReadBlockIDsMatchesStateMachineWrong : ChangeSpec := { name := "fnReadBlockIDsMatchesStateMachine", fn := fun _ => fun
  | [d1, d2] => { results := [.lit (.bool false)], args := [d1, d2] }
  | _ => none }
def FnReadBlockIDsMatchesStateMachineWrongFalsely : Prop := fnReadBlockIDsMatchesStateMachineRow.holds Try.pinned (OpenSpec.ofChange fnReadBlockIDsMatchesStateMachineWrong)

/-- 'zzlaws_root_b1.FnReadBlockIDsReadsBackWrittenArray': WHATEVER THE INPUT: true; the input reads as it did. -/
def fnReadBlockIDsReadsBackWrittenArraySpec : ChangeSpec := { name := "fnReadBlockIDsReadsBackWrittenArray", fn := fun _ => fun
  | [d1, d2, d3, d4] => { results := [.lit (.bool true)], args := [d1, d2, d3, d4] }
  | _ => none }
def fnReadBlockIDsReadsBackWrittenArrayRow : OpenClaim := { program := "qxb6602322a", sum := "e60e13803d3ead7f3fa60bbbf0e292f503f30f4461d5d1dbc4c921888bcf2587", func := "example.com/strata-kv/strata-kv/zzlaws_root_b1.FnReadBlockIDsReadsBackWrittenArray", spec := "fnReadBlockIDsReadsBackWrittenArray", inPlace := ["internal/bytealg.IndexByte", "internal/bytealg.Count", "internal/bytealg.Index"], named := ["internal/bytealg.MaxLen"], apart := false }
def FnReadBlockIDsReadsBackWrittenArraySaid : Prop := fnReadBlockIDsReadsBackWrittenArrayRow.holds Try.pinned (OpenSpec.ofChange fnReadBlockIDsReadsBackWrittenArraySpec)

/-- ITS FALSE NEIGHBOUR: 'it returns false'. Refute it at one input. -/
def fnReadBlockIDsReadsBackWrittenArrayWrong : ChangeSpec := { name := "fnReadBlockIDsReadsBackWrittenArray", fn := fun _ => fun
  | [d1, d2, d3, d4] => { results := [.lit (.bool false)], args := [d1, d2, d3, d4] }
  | _ => none }
def FnReadBlockIDsReadsBackWrittenArrayWrongFalsely : Prop := fnReadBlockIDsReadsBackWrittenArrayRow.holds Try.pinned (OpenSpec.ofChange fnReadBlockIDsReadsBackWrittenArrayWrong)

/-- 'zzlaws_root_b1.FnBlockIndexRemoveDropsExactlyThatID': WHATEVER THE INPUT: true; the input reads as it did. -/
def fnBlockIndexRemoveDropsExactlyThatIDSpec : ChangeSpec := { name := "fnBlockIndexRemoveDropsExactlyThatID", fn := fun _ => fun
  | [d1, d2, d3, d4, d5, d6] => { results := [.lit (.bool true)], args := [d1, d2, d3, d4, d5, d6] }
  | _ => none }
def fnBlockIndexRemoveDropsExactlyThatIDRow : OpenClaim := { program := "qxb6602322a", sum := "e60e13803d3ead7f3fa60bbbf0e292f503f30f4461d5d1dbc4c921888bcf2587", func := "example.com/strata-kv/strata-kv/zzlaws_root_b1.FnBlockIndexRemoveDropsExactlyThatID", spec := "fnBlockIndexRemoveDropsExactlyThatID", apart := false }
def FnBlockIndexRemoveDropsExactlyThatIDSaid : Prop := fnBlockIndexRemoveDropsExactlyThatIDRow.holds Try.pinned (OpenSpec.ofChange fnBlockIndexRemoveDropsExactlyThatIDSpec)

/-- ITS FALSE NEIGHBOUR: 'it returns false'. Refute it at one input. -/
def fnBlockIndexRemoveDropsExactlyThatIDWrong : ChangeSpec := { name := "fnBlockIndexRemoveDropsExactlyThatID", fn := fun _ => fun
  | [d1, d2, d3, d4, d5, d6] => { results := [.lit (.bool false)], args := [d1, d2, d3, d4, d5, d6] }
  | _ => none }
def FnBlockIndexRemoveDropsExactlyThatIDWrongFalsely : Prop := fnBlockIndexRemoveDropsExactlyThatIDRow.holds Try.pinned (OpenSpec.ofChange fnBlockIndexRemoveDropsExactlyThatIDWrong)

/-- 'zzlaws_root_b1.FnBlockIndexRemoveStaysInRunAndMovesTowardHome': WHATEVER THE INPUT: true; the input reads as it did. -/
def fnBlockIndexRemoveStaysInRunAndMovesTowardHomeSpec : ChangeSpec := { name := "fnBlockIndexRemoveStaysInRunAndMovesTowardHome", fn := fun _ => fun
  | [d1, d2, d3, d4, d5, d6] => { results := [.lit (.bool true)], args := [d1, d2, d3, d4, d5, d6] }
  | _ => none }
def fnBlockIndexRemoveStaysInRunAndMovesTowardHomeRow : OpenClaim := { program := "qxb6602322a", sum := "e60e13803d3ead7f3fa60bbbf0e292f503f30f4461d5d1dbc4c921888bcf2587", func := "example.com/strata-kv/strata-kv/zzlaws_root_b1.FnBlockIndexRemoveStaysInRunAndMovesTowardHome", spec := "fnBlockIndexRemoveStaysInRunAndMovesTowardHome", apart := false }
def FnBlockIndexRemoveStaysInRunAndMovesTowardHomeSaid : Prop := fnBlockIndexRemoveStaysInRunAndMovesTowardHomeRow.holds Try.pinned (OpenSpec.ofChange fnBlockIndexRemoveStaysInRunAndMovesTowardHomeSpec)

/-- ITS FALSE NEIGHBOUR: 'it returns false'. Refute it at one input. -/
def fnBlockIndexRemoveStaysInRunAndMovesTowardHomeWrong : ChangeSpec := { name := "fnBlockIndexRemoveStaysInRunAndMovesTowardHome", fn := fun _ => fun
  | [d1, d2, d3, d4, d5, d6] => { results := [.lit (.bool false)], args := [d1, d2, d3, d4, d5, d6] }
  | _ => none }
def FnBlockIndexRemoveStaysInRunAndMovesTowardHomeWrongFalsely : Prop := fnBlockIndexRemoveStaysInRunAndMovesTowardHomeRow.holds Try.pinned (OpenSpec.ofChange fnBlockIndexRemoveStaysInRunAndMovesTowardHomeWrong)

end Rows
end Go.Proofs.Qxb6602322a
