/-
  No cell of these rows narrows 'for every input' (looked for: loops, veiled, ifaces, maps, wideKeys, modest, calm, conditions, laid).
  DERIVED. THE GIVEN ROWS OF THIS SEAT. 3 by the template 'for every input the law returns true; each argument reads behind the call as it read before'; 0 by the template 'total and deterministic' (their statements: Qxb6605921aTotals.lean).
  GIVEN WITH THE SEED: the statements are not yours to turn. If you find one false, say at which input.
  Laid BY PROGRAM, IN A SANDBOX (cutbox-rows.mjs): the forced cells as the released guide's own fill.sh prints them over the translation df060c0a07aabfd0… (all of the seat's roots in one cut). By AI agents, Wed Nov 11 2026. No macro, syntax, notation, axiom, sorry.
-/
import Derived.Test.Qxb6605921aChecked
import GoSem.Claim
import GoSem.ClaimJoined
import GoSem.ClaimMapViews
import Derived.JoinedTies
import Derived.KernelRfl
namespace Go.Proofs.Qxb6605921a
/- THE CELL 'sum', in the pinned program and in every row, IS THE sha256 OF THE DUMP (.gsa) THAT Qxb6605921aProg.lean LOADS. Nothing in Lean hashes anything: it is a label: what it is worth is what the hold of that sum in a sandbox is worth. -/
noncomputable def Try.pinned : Pinned := { name := "qxb6605921a", sum := "df060c0a07aabfd0de92a9774174cdd4368296881d6f8c4d8af448fc3b1d98ea", checked := Try.checked }
namespace Rows
def none {H : Type} : Left H := { results := [], args := [] }

/-- 'zzlaws_internal_otlp_b1.FnOtlpTemporalityDecodesBack': WHATEVER THE INPUT: true; the input reads as it did. -/
def fnOtlpTemporalityDecodesBackSpec : ChangeSpec := { name := "fnOtlpTemporalityDecodesBack", fn := fun _ => fun
  | [d] => { results := [.lit (.bool true)], args := [d] }
  | _ => none }
def fnOtlpTemporalityDecodesBackRow : OpenClaim := { program := "qxb6605921a", sum := "df060c0a07aabfd0de92a9774174cdd4368296881d6f8c4d8af448fc3b1d98ea", func := "example.com/meterwright/meterwright/zzlaws_internal_otlp_b1.FnOtlpTemporalityDecodesBack", spec := "fnOtlpTemporalityDecodesBack", apart := false }
def FnOtlpTemporalityDecodesBackSaid : Prop := fnOtlpTemporalityDecodesBackRow.holds Try.pinned (OpenSpec.ofChange fnOtlpTemporalityDecodesBackSpec)

/-- ITS FALSE NEIGHBOUR: 'it returns false'. Refute it at one input. -/
def fnOtlpTemporalityDecodesBackWrong : ChangeSpec := { name := "fnOtlpTemporalityDecodesBack", fn := fun _ => fun
  | [d] => { results := [.lit (.bool false)], args := [d] }
  | _ => none }
def FnOtlpTemporalityDecodesBackWrongFalsely : Prop := fnOtlpTemporalityDecodesBackRow.holds Try.pinned (OpenSpec.ofChange fnOtlpTemporalityDecodesBackWrong)

/-- 'zzlaws_internal_otlp_b1.FnOtlpAppendDoubleTwoRecordsReadBack': WHATEVER THE INPUT: true; the input reads as it did. -/
def fnOtlpAppendDoubleTwoRecordsReadBackSpec : ChangeSpec := { name := "fnOtlpAppendDoubleTwoRecordsReadBack", fn := fun _ => fun
  | [d1, d2, d3, d4, d5] => { results := [.lit (.bool true)], args := [d1, d2, d3, d4, d5] }
  | _ => none }
def fnOtlpAppendDoubleTwoRecordsReadBackRow : OpenClaim := { program := "qxb6605921a", sum := "df060c0a07aabfd0de92a9774174cdd4368296881d6f8c4d8af448fc3b1d98ea", func := "example.com/meterwright/meterwright/zzlaws_internal_otlp_b1.FnOtlpAppendDoubleTwoRecordsReadBack", spec := "fnOtlpAppendDoubleTwoRecordsReadBack", inPlace := ["math.Float64bits"], named := ["encoding/binary.LittleEndian"], apart := false }
def FnOtlpAppendDoubleTwoRecordsReadBackSaid : Prop := fnOtlpAppendDoubleTwoRecordsReadBackRow.holds Try.pinned (OpenSpec.ofChange fnOtlpAppendDoubleTwoRecordsReadBackSpec)

/-- ITS FALSE NEIGHBOUR: 'it returns false'. Refute it at one input. -/
def fnOtlpAppendDoubleTwoRecordsReadBackWrong : ChangeSpec := { name := "fnOtlpAppendDoubleTwoRecordsReadBack", fn := fun _ => fun
  | [d1, d2, d3, d4, d5] => { results := [.lit (.bool false)], args := [d1, d2, d3, d4, d5] }
  | _ => none }
def FnOtlpAppendDoubleTwoRecordsReadBackWrongFalsely : Prop := fnOtlpAppendDoubleTwoRecordsReadBackRow.holds Try.pinned (OpenSpec.ofChange fnOtlpAppendDoubleTwoRecordsReadBackWrong)

/-- 'zzlaws_internal_otlp_b1.FnOtlpAppendDoublePrefixFreeAndInjective': WHATEVER THE INPUT: true; the input reads as it did. -/
def fnOtlpAppendDoublePrefixFreeAndInjectiveSpec : ChangeSpec := { name := "fnOtlpAppendDoublePrefixFreeAndInjective", fn := fun _ => fun
  | [d1, d2, d3, d4] => { results := [.lit (.bool true)], args := [d1, d2, d3, d4] }
  | _ => none }
def fnOtlpAppendDoublePrefixFreeAndInjectiveRow : OpenClaim := { program := "qxb6605921a", sum := "df060c0a07aabfd0de92a9774174cdd4368296881d6f8c4d8af448fc3b1d98ea", func := "example.com/meterwright/meterwright/zzlaws_internal_otlp_b1.FnOtlpAppendDoublePrefixFreeAndInjective", spec := "fnOtlpAppendDoublePrefixFreeAndInjective", inPlace := ["math.Float64bits"], named := ["encoding/binary.LittleEndian"], apart := false }
def FnOtlpAppendDoublePrefixFreeAndInjectiveSaid : Prop := fnOtlpAppendDoublePrefixFreeAndInjectiveRow.holds Try.pinned (OpenSpec.ofChange fnOtlpAppendDoublePrefixFreeAndInjectiveSpec)

/-- ITS FALSE NEIGHBOUR: 'it returns false'. Refute it at one input. -/
def fnOtlpAppendDoublePrefixFreeAndInjectiveWrong : ChangeSpec := { name := "fnOtlpAppendDoublePrefixFreeAndInjective", fn := fun _ => fun
  | [d1, d2, d3, d4] => { results := [.lit (.bool false)], args := [d1, d2, d3, d4] }
  | _ => none }
def FnOtlpAppendDoublePrefixFreeAndInjectiveWrongFalsely : Prop := fnOtlpAppendDoublePrefixFreeAndInjectiveRow.holds Try.pinned (OpenSpec.ofChange fnOtlpAppendDoublePrefixFreeAndInjectiveWrong)

end Rows
end Go.Proofs.Qxb6605921a
