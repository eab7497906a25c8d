/-
  No cell of these rows narrows 'for every input' (looked for: loops, veiled, ifaces, maps, wideKeys, modest, calm, conditions, laid).
  DERIVED. THE GIVEN ROWS OF THIS SEAT. 3 by the template 'for every input the law returns true; each argument reads behind the call as it read before'; 0 by the template 'total and deterministic' (their statements: Qxb6605821aTotals.lean).
  GIVEN WITH THE SEED: the statements are not yours to turn. If you find one false, say at which input.
  Laid BY PROGRAM, IN A SANDBOX (cutbox-rows.mjs): the forced cells as the released guide's own fill.sh prints them over the translation 3d47497adce175fa… (all of the seat's roots in one cut). By AI agents, Wed Nov 11 2026. No macro, syntax, notation, axiom, sorry.
-/
import Derived.Test.Qxb6605821aChecked
import GoSem.Claim
import GoSem.ClaimJoined
import GoSem.ClaimMapViews
import Derived.JoinedTies
import Derived.KernelRfl
namespace Go.Proofs.Qxb6605821a
/- THE CELL 'sum', in the pinned program and in every row, IS THE sha256 OF THE DUMP (.gsa) THAT Qxb6605821aProg.lean LOADS. Nothing in Lean hashes anything: it is a label: what it is worth is what the hold of that sum in a sandbox is worth. -/
noncomputable def Try.pinned : Pinned := { name := "qxb6605821a", sum := "3d47497adce175faf27d486ebfced86230ab53525c09cdcae9e529c7f3920d1e", checked := Try.checked }
namespace Rows
def none {H : Type} : Left H := { results := [], args := [] }

/-- 'zzlaws_pkg_schedule_b1.FnIsDatePartExact': WHATEVER THE INPUT: true; the input reads as it did. -/
def fnIsDatePartExactSpec : ChangeSpec := { name := "fnIsDatePartExact", fn := fun _ => fun
  | [d] => { results := [.lit (.bool true)], args := [d] }
  | _ => none }
def fnIsDatePartExactRow : OpenClaim := { program := "qxb6605821a", sum := "3d47497adce175faf27d486ebfced86230ab53525c09cdcae9e529c7f3920d1e", func := "example.com/tickwell/tickwell/zzlaws_pkg_schedule_b1.FnIsDatePartExact", spec := "fnIsDatePartExact", inPlace := ["internal/bytealg.IndexByteString", "internal/bytealg.IndexString"], named := ["internal/bytealg.MaxLen"], apart := false }
def FnIsDatePartExactSaid : Prop := fnIsDatePartExactRow.holds Try.pinned (OpenSpec.ofChange fnIsDatePartExactSpec)

/-- ITS FALSE NEIGHBOUR: 'it returns false'. Refute it at one input. -/
def fnIsDatePartExactWrong : ChangeSpec := { name := "fnIsDatePartExact", fn := fun _ => fun
  | [d] => { results := [.lit (.bool false)], args := [d] }
  | _ => none }
def FnIsDatePartExactWrongFalsely : Prop := fnIsDatePartExactRow.holds Try.pinned (OpenSpec.ofChange fnIsDatePartExactWrong)

/-- 'zzlaws_pkg_schedule_b1.FnFieldSetMembersExact': WHATEVER THE INPUT: true; the input reads as it did. -/
def fnFieldSetMembersExactSpec : ChangeSpec := { name := "fnFieldSetMembersExact", fn := fun _ => fun
  | [d1, d2, d3, d4, d5, d6, d7, d8] => { results := [.lit (.bool true)], args := [d1, d2, d3, d4, d5, d6, d7, d8] }
  | _ => none }
def fnFieldSetMembersExactRow : OpenClaim := { program := "qxb6605821a", sum := "3d47497adce175faf27d486ebfced86230ab53525c09cdcae9e529c7f3920d1e", func := "example.com/tickwell/tickwell/zzlaws_pkg_schedule_b1.FnFieldSetMembersExact", spec := "fnFieldSetMembersExact", apart := false }
def FnFieldSetMembersExactSaid : Prop := fnFieldSetMembersExactRow.holds Try.pinned (OpenSpec.ofChange fnFieldSetMembersExactSpec)

/-- ITS FALSE NEIGHBOUR: 'it returns false'. Refute it at one input. -/
def fnFieldSetMembersExactWrong : ChangeSpec := { name := "fnFieldSetMembersExact", fn := fun _ => fun
  | [d1, d2, d3, d4, d5, d6, d7, d8] => { results := [.lit (.bool false)], args := [d1, d2, d3, d4, d5, d6, d7, d8] }
  | _ => none }
def FnFieldSetMembersExactWrongFalsely : Prop := fnFieldSetMembersExactRow.holds Try.pinned (OpenSpec.ofChange fnFieldSetMembersExactWrong)

/-- 'zzlaws_pkg_schedule_b1.FnFieldSetCountEndsAndShift': WHATEVER THE INPUT: true; the input reads as it did. -/
def fnFieldSetCountEndsAndShiftSpec : ChangeSpec := { name := "fnFieldSetCountEndsAndShift", fn := fun _ => fun
  | [d1, d2, d3, d4, d5, d6, d7, d8] => { results := [.lit (.bool true)], args := [d1, d2, d3, d4, d5, d6, d7, d8] }
  | _ => none }
def fnFieldSetCountEndsAndShiftRow : OpenClaim := { program := "qxb6605821a", sum := "3d47497adce175faf27d486ebfced86230ab53525c09cdcae9e529c7f3920d1e", func := "example.com/tickwell/tickwell/zzlaws_pkg_schedule_b1.FnFieldSetCountEndsAndShift", spec := "fnFieldSetCountEndsAndShift", apart := false }
def FnFieldSetCountEndsAndShiftSaid : Prop := fnFieldSetCountEndsAndShiftRow.holds Try.pinned (OpenSpec.ofChange fnFieldSetCountEndsAndShiftSpec)

/-- ITS FALSE NEIGHBOUR: 'it returns false'. Refute it at one input. -/
def fnFieldSetCountEndsAndShiftWrong : ChangeSpec := { name := "fnFieldSetCountEndsAndShift", fn := fun _ => fun
  | [d1, d2, d3, d4, d5, d6, d7, d8] => { results := [.lit (.bool false)], args := [d1, d2, d3, d4, d5, d6, d7, d8] }
  | _ => none }
def FnFieldSetCountEndsAndShiftWrongFalsely : Prop := fnFieldSetCountEndsAndShiftRow.holds Try.pinned (OpenSpec.ofChange fnFieldSetCountEndsAndShiftWrong)

end Rows
end Go.Proofs.Qxb6605821a
