/-
  No cell of these rows narrows 'for every input' (looked for: loops, veiled, ifaces, maps, wideKeys, modest, calm, conditions, laid).
  DERIVED. THE GIVEN ROWS OF THIS SEAT. 2 by the template 'for every input the law returns true; each argument reads behind the call as it read before'; 0 by the template 'total and deterministic' (their statements: Qxb6628317aFmtTotals.lean).
  GIVEN WITH THE SEED: the statements are not yours to turn. If you find one false, say at which input.
  Laid BY PROGRAM, IN A SANDBOX (cutbox-rows.mjs): the forced cells as the released guide's own fill.sh prints them over the translation b058bd04a2f257ee… (all of the seat's roots in one cut). By AI agents, Wed Nov 11 2026. No macro, syntax, notation, axiom, sorry.
-/
import Derived.Test.Qxb6628317aFmtChecked
import GoSem.Claim
import GoSem.ClaimJoined
import GoSem.ClaimMapViews
import Derived.JoinedTies
import Derived.KernelRfl
namespace Go.Proofs.Qxb6628317aFmt
/- THE CELL 'sum', in the pinned program and in every row, IS THE sha256 OF THE DUMP (.gsa) THAT Qxb6628317aFmtProg.lean LOADS. Nothing in Lean hashes anything: it is a label: what it is worth is what the hold of that sum in a sandbox is worth. -/
noncomputable def Tryf.pinned : Pinned := { name := "qxb6628317afmt", sum := "b058bd04a2f257eecc938d6d3ea211c71b041cbb571f721e0325aa201e0a40ec", checked := Tryf.checked }
namespace Rows
def none {H : Type} : Left H := { results := [], args := [] }

/-- 'zzlaws_pkg_odoh_b1.FnDecodePlaintextMatchesCanonicalForm': WHATEVER THE INPUT: true; the input reads as it did. -/
def fnDecodePlaintextMatchesCanonicalFormSpec : ChangeSpec := { name := "fnDecodePlaintextMatchesCanonicalForm", fn := fun _ => fun
  | [d] => { results := [.lit (.bool true)], args := [d] }
  | _ => none }
def fnDecodePlaintextMatchesCanonicalFormRow : OpenClaim := { program := "qxb6628317afmt", sum := "b058bd04a2f257eecc938d6d3ea211c71b041cbb571f721e0325aa201e0a40ec", func := "example.com/veilquery/veilquery/zzlaws_pkg_odoh_b1.FnDecodePlaintextMatchesCanonicalForm", spec := "fnDecodePlaintextMatchesCanonicalForm", stops := ["fmt.errorf"], inPlace := ["fmt.errorf"], named := ["encoding/binary.BigEndian"], apart := false }
/-- NO THEOREM (fmt's text is open here; it may be false): for the released tool's asking of the row's closed facts alone. THE STATEMENT IS 'FnDecodePlaintextMatchesCanonicalFormToldSaid' (Qxb6628317aFmtCards.lean). -/
def FnDecodePlaintextMatchesCanonicalFormFormAsk : Prop := fnDecodePlaintextMatchesCanonicalFormRow.holds Tryf.pinned (OpenSpec.ofChange fnDecodePlaintextMatchesCanonicalFormSpec)

/-- ITS FALSE NEIGHBOUR: 'it returns false'. Refute it at one input. -/
def fnDecodePlaintextMatchesCanonicalFormWrong : ChangeSpec := { name := "fnDecodePlaintextMatchesCanonicalForm", fn := fun _ => fun
  | [d] => { results := [.lit (.bool false)], args := [d] }
  | _ => none }
def FnDecodePlaintextMatchesCanonicalFormWrongFormAsk : Prop := fnDecodePlaintextMatchesCanonicalFormRow.holds Tryf.pinned (OpenSpec.ofChange fnDecodePlaintextMatchesCanonicalFormWrong)

/-- 'zzlaws_pkg_odoh_b1.FnDecodePlaintextIgnoresOneMoreZeroOfPadding': WHATEVER THE INPUT: true; the input reads as it did. -/
def fnDecodePlaintextIgnoresOneMoreZeroOfPaddingSpec : ChangeSpec := { name := "fnDecodePlaintextIgnoresOneMoreZeroOfPadding", fn := fun _ => fun
  | [d1, d2] => { results := [.lit (.bool true)], args := [d1, d2] }
  | _ => none }
def fnDecodePlaintextIgnoresOneMoreZeroOfPaddingRow : OpenClaim := { program := "qxb6628317afmt", sum := "b058bd04a2f257eecc938d6d3ea211c71b041cbb571f721e0325aa201e0a40ec", func := "example.com/veilquery/veilquery/zzlaws_pkg_odoh_b1.FnDecodePlaintextIgnoresOneMoreZeroOfPadding", spec := "fnDecodePlaintextIgnoresOneMoreZeroOfPadding", stops := ["fmt.errorf"], inPlace := ["fmt.errorf"], named := ["encoding/binary.BigEndian"], apart := false }
/-- NO THEOREM (fmt's text is open here; it may be false): for the released tool's asking of the row's closed facts alone. THE STATEMENT IS 'FnDecodePlaintextIgnoresOneMoreZeroOfPaddingToldSaid' (Qxb6628317aFmtCards.lean). -/
def FnDecodePlaintextIgnoresOneMoreZeroOfPaddingFormAsk : Prop := fnDecodePlaintextIgnoresOneMoreZeroOfPaddingRow.holds Tryf.pinned (OpenSpec.ofChange fnDecodePlaintextIgnoresOneMoreZeroOfPaddingSpec)

/-- ITS FALSE NEIGHBOUR: 'it returns false'. Refute it at one input. -/
def fnDecodePlaintextIgnoresOneMoreZeroOfPaddingWrong : ChangeSpec := { name := "fnDecodePlaintextIgnoresOneMoreZeroOfPadding", fn := fun _ => fun
  | [d1, d2] => { results := [.lit (.bool false)], args := [d1, d2] }
  | _ => none }
def FnDecodePlaintextIgnoresOneMoreZeroOfPaddingWrongFormAsk : Prop := fnDecodePlaintextIgnoresOneMoreZeroOfPaddingRow.holds Tryf.pinned (OpenSpec.ofChange fnDecodePlaintextIgnoresOneMoreZeroOfPaddingWrong)

end Rows
end Go.Proofs.Qxb6628317aFmt
