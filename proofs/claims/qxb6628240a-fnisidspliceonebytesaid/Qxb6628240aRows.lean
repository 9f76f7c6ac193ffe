/-
  No cell of these rows narrows 'for every input' (looked for: loops, veiled, ifaces, maps, wideKeys, modest, calm, conditions, laid).
  DERIVED. THE GIVEN ROWS OF THIS SEAT. 1 by the template 'for every input the law returns true; each argument reads behind the call as it read before'; 0 by the template 'total and deterministic' (their statements: Qxb6628240aTotals.lean).
  GIVEN WITH THE SEED: the statements are not yours to turn. If you find one false, say at which input.
  Laid BY PROGRAM, IN A SANDBOX (cutbox-rows.mjs): the forced cells as the released guide's own fill.sh prints them over the translation b04e76ca6a869a6d… (all of the seat's roots in one cut). By AI agents, Wed Nov 11 2026. No macro, syntax, notation, axiom, sorry.
-/
import Derived.Test.Qxb6628240aChecked
import GoSem.Claim
import GoSem.ClaimJoined
import GoSem.ClaimMapViews
import Derived.JoinedTies
import Derived.KernelRfl
namespace Go.Proofs.Qxb6628240a
/- THE CELL 'sum', in the pinned program and in every row, IS THE sha256 OF THE DUMP (.gsa) THAT Qxb6628240aProg.lean LOADS. Nothing in Lean hashes anything: it is a label: what it is worth is what the hold of that sum in a sandbox is worth. -/
noncomputable def Try.pinned : Pinned := { name := "qxb6628240a", sum := "b04e76ca6a869a6dbf6709bfca3a28dbc76e8f5e25426e4e98bb66e8c64ffcdf", checked := Try.checked }
namespace Rows
def none {H : Type} : Left H := { results := [], args := [] }

/-- 'zzlaws_internal_bootstrap_b1.FnIsIDSpliceOneByte': WHATEVER THE INPUT: true; the input reads as it did. -/
def fnIsIDSpliceOneByteSpec : ChangeSpec := { name := "fnIsIDSpliceOneByte", fn := fun _ => fun
  | [d1, d2, d3] => { results := [.lit (.bool true)], args := [d1, d2, d3] }
  | _ => none }
def fnIsIDSpliceOneByteRow : OpenClaim := { program := "qxb6628240a", sum := "b04e76ca6a869a6dbf6709bfca3a28dbc76e8f5e25426e4e98bb66e8c64ffcdf", func := "example.com/hojo/hojo/zzlaws_internal_bootstrap_b1.FnIsIDSpliceOneByte", spec := "fnIsIDSpliceOneByte", inPlace := ["crypto/internal/constanttime.boolToUint8"], apart := false }
def FnIsIDSpliceOneByteSaid : Prop := fnIsIDSpliceOneByteRow.holds Try.pinned (OpenSpec.ofChange fnIsIDSpliceOneByteSpec)

/-- ITS FALSE NEIGHBOUR: 'it returns false'. Refute it at one input. -/
def fnIsIDSpliceOneByteWrong : ChangeSpec := { name := "fnIsIDSpliceOneByte", fn := fun _ => fun
  | [d1, d2, d3] => { results := [.lit (.bool false)], args := [d1, d2, d3] }
  | _ => none }
def FnIsIDSpliceOneByteWrongFalsely : Prop := fnIsIDSpliceOneByteRow.holds Try.pinned (OpenSpec.ofChange fnIsIDSpliceOneByteWrong)

end Rows
end Go.Proofs.Qxb6628240a
