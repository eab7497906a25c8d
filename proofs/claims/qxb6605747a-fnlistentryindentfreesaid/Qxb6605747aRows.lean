/-
  No cell of these rows narrows 'for every input' (looked for: loops, veiled, ifaces, maps, wideKeys, modest, calm, conditions, laid).
  DERIVED. THE GIVEN ROWS OF THIS SEAT. 2 by the template 'for every input the law returns true; each argument reads behind the call as it read before'; 0 by the template 'total and deterministic' (their statements: Qxb6605747aTotals.lean).
  GIVEN WITH THE SEED: the statements are not yours to turn. If you find one false, say at which input.
  Laid BY PROGRAM, IN A SANDBOX (cutbox-rows.mjs): the forced cells as the released guide's own fill.sh prints them over the translation f423990e4a113826… (all of the seat's roots in one cut). By AI agents, Wed Nov 11 2026. No macro, syntax, notation, axiom, sorry.
-/
import Derived.Test.Qxb6605747aChecked
import GoSem.Claim
import GoSem.ClaimJoined
import GoSem.ClaimMapViews
import Derived.JoinedTies
import Derived.KernelRfl
namespace Go.Proofs.Qxb6605747a
/- THE CELL 'sum', in the pinned program and in every row, IS THE sha256 OF THE DUMP (.gsa) THAT Qxb6605747aProg.lean LOADS. Nothing in Lean hashes anything: it is a label: what it is worth is what the hold of that sum in a sandbox is worth. -/
noncomputable def Try.pinned : Pinned := { name := "qxb6605747a", sum := "f423990e4a1138265f0f6bc8b3d86b650976db2be59b13acb5a32ec653f18b09", checked := Try.checked }
namespace Rows
def none {H : Type} : Left H := { results := [], args := [] }

/-- 'zzlaws_plan_b1.FnListEntryMatchesFirstDash': WHATEVER THE INPUT: true; the input reads as it did. -/
def fnListEntryMatchesFirstDashSpec : ChangeSpec := { name := "fnListEntryMatchesFirstDash", fn := fun _ => fun
  | [d] => { results := [.lit (.bool true)], args := [d] }
  | _ => none }
def fnListEntryMatchesFirstDashRow : OpenClaim := { program := "qxb6605747a", sum := "f423990e4a1138265f0f6bc8b3d86b650976db2be59b13acb5a32ec653f18b09", func := "example.com/vestbook/vestbook/zzlaws_plan_b1.FnListEntryMatchesFirstDash", spec := "fnListEntryMatchesFirstDash", apart := false }
def FnListEntryMatchesFirstDashSaid : Prop := fnListEntryMatchesFirstDashRow.holds Try.pinned (OpenSpec.ofChange fnListEntryMatchesFirstDashSpec)

/-- ITS FALSE NEIGHBOUR: 'it returns false'. Refute it at one input. -/
def fnListEntryMatchesFirstDashWrong : ChangeSpec := { name := "fnListEntryMatchesFirstDash", fn := fun _ => fun
  | [d] => { results := [.lit (.bool false)], args := [d] }
  | _ => none }
def FnListEntryMatchesFirstDashWrongFalsely : Prop := fnListEntryMatchesFirstDashRow.holds Try.pinned (OpenSpec.ofChange fnListEntryMatchesFirstDashWrong)

/-- 'zzlaws_plan_b1.FnListEntryIndentFree': WHATEVER THE INPUT: true; the input reads as it did. -/
def fnListEntryIndentFreeSpec : ChangeSpec := { name := "fnListEntryIndentFree", fn := fun _ => fun
  | [d1, d2] => { results := [.lit (.bool true)], args := [d1, d2] }
  | _ => none }
def fnListEntryIndentFreeRow : OpenClaim := { program := "qxb6605747a", sum := "f423990e4a1138265f0f6bc8b3d86b650976db2be59b13acb5a32ec653f18b09", func := "example.com/vestbook/vestbook/zzlaws_plan_b1.FnListEntryIndentFree", spec := "fnListEntryIndentFree", apart := false }
def FnListEntryIndentFreeSaid : Prop := fnListEntryIndentFreeRow.holds Try.pinned (OpenSpec.ofChange fnListEntryIndentFreeSpec)

/-- ITS FALSE NEIGHBOUR: 'it returns false'. Refute it at one input. -/
def fnListEntryIndentFreeWrong : ChangeSpec := { name := "fnListEntryIndentFree", fn := fun _ => fun
  | [d1, d2] => { results := [.lit (.bool false)], args := [d1, d2] }
  | _ => none }
def FnListEntryIndentFreeWrongFalsely : Prop := fnListEntryIndentFreeRow.holds Try.pinned (OpenSpec.ofChange fnListEntryIndentFreeWrong)

end Rows
end Go.Proofs.Qxb6605747a
