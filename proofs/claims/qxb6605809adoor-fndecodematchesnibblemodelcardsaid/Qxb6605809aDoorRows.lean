/-
  NARROWER THAN 'FOR EVERY INPUT', by the rows' own cells (each row's printed sentence says how): FnDecodeMatchesNibbleModel: laid · FnDecodeInvertsLowerHexEncoding: laid.
  DERIVED. THE GIVEN ROWS OF THIS SEAT. 2 by the template 'for every input the law returns true; each argument reads behind the call as it read before'; 0 by the template 'total and deterministic' (their statements: Qxb6605809aDoorTotals.lean).
  GIVEN WITH THE SEED: the statements are not yours to turn. If you find one false, say at which input.
  Laid BY PROGRAM, IN A SANDBOX (cutbox-rows.mjs): the forced cells as the released guide's own fill.sh prints them over the translation f3379f943348d13e… (all of the seat's roots in one cut). By AI agents, Wed Nov 11 2026. No macro, syntax, notation, axiom, sorry.
-/
import Derived.Test.Qxb6605809aDoorChecked
import GoSem.Claim
import GoSem.ClaimJoined
import GoSem.ClaimMapViews
import Derived.JoinedTies
import Derived.KernelRfl
namespace Go.Proofs.Qxb6605809aDoor
/- THE CELL 'sum', in the pinned program and in every row, IS THE sha256 OF THE DUMP (.gsa) THAT Qxb6605809aDoorProg.lean LOADS. Nothing in Lean hashes anything: it is a label: what it is worth is what the hold of that sum in a sandbox is worth. -/
noncomputable def Tryd.pinned : Pinned := { name := "qxb6605809adoor", sum := "f3379f943348d13e9fd333d16c0de8ac224e5946b13ce61486a52fc51e4ed6da", checked := Tryd.checked }
namespace Rows
def none {H : Type} : Left H := { results := [], args := [] }

/- WHAT THE LISTED PACKAGE-LEVEL VARIABLES READ AS WHEN THE CALL BEGINS. Each datum BY PROGRAM (the guide's laid-datum.mjs) off the statement by which the dump's own 'gosem.cut.vars' lays the variable. In a bare row this is a premise. The card (Qxb6605809aDoorCards.lean) ties it to the program's text. -/
def laid_encoding_hex_ErrLength {H : Type} : DataW H := .iface "*errors.errorString" (.ptr (.agg [.lit (.string [101, 110, 99, 111, 100, 105, 110, 103, 47, 104, 101, 120, 58, 32, 111, 100, 100, 32, 108, 101, 110, 103, 116, 104, 32, 104, 101, 120, 32, 115, 116, 114, 105, 110, 103])]))

/-- 'zzlaws_internal_lowerhex_b1.FnDecodeMatchesNibbleModel': WHATEVER THE INPUT: true; the input reads as it did. -/
def fnDecodeMatchesNibbleModelSpec : ChangeSpec := { name := "fnDecodeMatchesNibbleModel", fn := fun _ => fun
  | [d] => { results := [.lit (.bool true)], args := [d] }
  | _ => none }
def fnDecodeMatchesNibbleModelRow : OpenClaim := { program := "qxb6605809adoor", sum := "f3379f943348d13e9fd333d16c0de8ac224e5946b13ce61486a52fc51e4ed6da", func := "example.com/quorumstone/quorumstone/zzlaws_internal_lowerhex_b1.FnDecodeMatchesNibbleModel", spec := "fnDecodeMatchesNibbleModel", named := ["encoding/hex.ErrLength"], apart := false, laid := [("encoding/hex.ErrLength", laid_encoding_hex_ErrLength)] }
def FnDecodeMatchesNibbleModelSaid : Prop := fnDecodeMatchesNibbleModelRow.holds Tryd.pinned (OpenSpec.ofChange fnDecodeMatchesNibbleModelSpec)

/-- ITS FALSE NEIGHBOUR: 'it returns false'. Refute it at one input. -/
def fnDecodeMatchesNibbleModelWrong : ChangeSpec := { name := "fnDecodeMatchesNibbleModel", fn := fun _ => fun
  | [d] => { results := [.lit (.bool false)], args := [d] }
  | _ => none }
def FnDecodeMatchesNibbleModelWrongFalsely : Prop := fnDecodeMatchesNibbleModelRow.holds Tryd.pinned (OpenSpec.ofChange fnDecodeMatchesNibbleModelWrong)

/-- 'zzlaws_internal_lowerhex_b1.FnDecodeInvertsLowerHexEncoding': WHATEVER THE INPUT: true; the input reads as it did. -/
def fnDecodeInvertsLowerHexEncodingSpec : ChangeSpec := { name := "fnDecodeInvertsLowerHexEncoding", fn := fun _ => fun
  | [d] => { results := [.lit (.bool true)], args := [d] }
  | _ => none }
def fnDecodeInvertsLowerHexEncodingRow : OpenClaim := { program := "qxb6605809adoor", sum := "f3379f943348d13e9fd333d16c0de8ac224e5946b13ce61486a52fc51e4ed6da", func := "example.com/quorumstone/quorumstone/zzlaws_internal_lowerhex_b1.FnDecodeInvertsLowerHexEncoding", spec := "fnDecodeInvertsLowerHexEncoding", named := ["encoding/hex.ErrLength"], apart := false, laid := [("encoding/hex.ErrLength", laid_encoding_hex_ErrLength)] }
def FnDecodeInvertsLowerHexEncodingSaid : Prop := fnDecodeInvertsLowerHexEncodingRow.holds Tryd.pinned (OpenSpec.ofChange fnDecodeInvertsLowerHexEncodingSpec)

/-- ITS FALSE NEIGHBOUR: 'it returns false'. Refute it at one input. -/
def fnDecodeInvertsLowerHexEncodingWrong : ChangeSpec := { name := "fnDecodeInvertsLowerHexEncoding", fn := fun _ => fun
  | [d] => { results := [.lit (.bool false)], args := [d] }
  | _ => none }
def FnDecodeInvertsLowerHexEncodingWrongFalsely : Prop := fnDecodeInvertsLowerHexEncodingRow.holds Tryd.pinned (OpenSpec.ofChange fnDecodeInvertsLowerHexEncodingWrong)

end Rows
end Go.Proofs.Qxb6605809aDoor
