/-
  No cell of these rows narrows 'for every input' (looked for: loops, veiled, ifaces, maps, wideKeys, modest, calm, conditions, laid).
  DERIVED. THE GIVEN ROWS OF THIS SEAT. 1 by the template 'for every input the law returns true; each argument reads behind the call as it read before'; 0 by the template 'total and deterministic' (their statements: Qxb6628162aTotals.lean).
  GIVEN WITH THE SEED: the statements are not yours to turn. If you find one false, say at which input.
  Laid BY PROGRAM, IN A SANDBOX (cutbox-rows.mjs): the forced cells as the released guide's own fill.sh prints them over the translation 708a3bc380ffb9a3… (all of the seat's roots in one cut). By AI agents, Wed Nov 11 2026. No macro, syntax, notation, axiom, sorry.
-/
import Derived.Test.Qxb6628162aChecked
import GoSem.Claim
import GoSem.ClaimJoined
import GoSem.ClaimMapViews
import Derived.JoinedTies
import Derived.KernelRfl
namespace Go.Proofs.Qxb6628162a
/- THE CELL 'sum', in the pinned program and in every row, IS THE sha256 OF THE DUMP (.gsa) THAT Qxb6628162aProg.lean LOADS. Nothing in Lean hashes anything: it is a label: what it is worth is what the hold of that sum in a sandbox is worth. -/
noncomputable def Try.pinned : Pinned := { name := "qxb6628162a", sum := "708a3bc380ffb9a35abf9179b5ae85685b0da5f8226dab5620eab5f4ef048962", checked := Try.checked }
namespace Rows
def none {H : Type} : Left H := { results := [], args := [] }

/-- 'zzlaws_pkg_bounded_b1.FnLineWritePiecewiseAgreesWithWhole': WHATEVER THE INPUT: true; the input reads as it did. -/
def fnLineWritePiecewiseAgreesWithWholeSpec : ChangeSpec := { name := "fnLineWritePiecewiseAgreesWithWhole", fn := fun _ => fun
  | [d] => { results := [.lit (.bool true)], args := [d] }
  | _ => none }
def fnLineWritePiecewiseAgreesWithWholeRow : OpenClaim := { program := "qxb6628162a", sum := "708a3bc380ffb9a35abf9179b5ae85685b0da5f8226dab5620eab5f4ef048962", func := "example.com/stdiom/stdiom/zzlaws_pkg_bounded_b1.FnLineWritePiecewiseAgreesWithWhole", spec := "fnLineWritePiecewiseAgreesWithWhole", inPlace := ["internal/abi.NoEscape"], apart := false }
def FnLineWritePiecewiseAgreesWithWholeSaid : Prop := fnLineWritePiecewiseAgreesWithWholeRow.holds Try.pinned (OpenSpec.ofChange fnLineWritePiecewiseAgreesWithWholeSpec)

/-- ITS FALSE NEIGHBOUR: 'it returns false'. Refute it at one input. -/
def fnLineWritePiecewiseAgreesWithWholeWrong : ChangeSpec := { name := "fnLineWritePiecewiseAgreesWithWhole", fn := fun _ => fun
  | [d] => { results := [.lit (.bool false)], args := [d] }
  | _ => none }
def FnLineWritePiecewiseAgreesWithWholeWrongFalsely : Prop := fnLineWritePiecewiseAgreesWithWholeRow.holds Try.pinned (OpenSpec.ofChange fnLineWritePiecewiseAgreesWithWholeWrong)

end Rows
end Go.Proofs.Qxb6628162a
