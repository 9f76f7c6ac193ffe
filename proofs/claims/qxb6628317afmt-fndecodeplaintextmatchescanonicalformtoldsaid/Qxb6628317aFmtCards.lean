/-
  DERIVED. GIVEN WITH THE SEED: THE CARDS: each row of Qxb6628317aFmtRows.lean that lists a variable, with what it lists TIED to the program's text (the seventh form; the later family's looks); each row that meets fmt, with fmt's text TOLD by the authors' own Lean function (tested against real Go, not proved from fmt's source: count such statements apart). THE CARD IS WHAT COUNTS. Prove the row's statement (the work); the ties are given (Qxb6628317aFmtTie.lean); close each card by the builder's one call (the guide's Derived/Test/ToyasCard.lean, 'card_holds'). Laid BY PROGRAM, IN A SANDBOX (cutbox-door.mjs). By AI agents, Wed Nov 11 2026. No macro, syntax, notation, axiom, sorry.
-/
import Derived.Test.Qxb6628317aFmtRows
import GoSem.ClaimSeven
namespace Go.Proofs.Qxb6628317aFmt
namespace Rows

/-- THE TOLD CARD OF 'zzlaws_pkg_odoh_b1.FnDecodePlaintextMatchesCanonicalForm'. -/
def fnDecodePlaintextMatchesCanonicalFormCard : Claim7 := { stood := { row := fnDecodePlaintextMatchesCanonicalFormRow, standIns := [], harness := (true, "c8f8a48094e47c380bc16337831f9286711b271bdc7175d4c637bad43d1c61c2"), looks := false }, told := true, goes := false }
def FnDecodePlaintextMatchesCanonicalFormToldSaid : Prop := Claim7.holds Tryf.pinned (.plain (OpenSpec.ofChange fnDecodePlaintextMatchesCanonicalFormSpec)) fnDecodePlaintextMatchesCanonicalFormCard
/-- ITS FALSE NEIGHBOUR. Refute it at one input. -/
def FnDecodePlaintextMatchesCanonicalFormToldWrongFalsely : Prop := Claim7.holds Tryf.pinned (.plain (OpenSpec.ofChange fnDecodePlaintextMatchesCanonicalFormWrong)) fnDecodePlaintextMatchesCanonicalFormCard

/-- THE TOLD CARD OF 'zzlaws_pkg_odoh_b1.FnDecodePlaintextIgnoresOneMoreZeroOfPadding'. -/
def fnDecodePlaintextIgnoresOneMoreZeroOfPaddingCard : Claim7 := { stood := { row := fnDecodePlaintextIgnoresOneMoreZeroOfPaddingRow, standIns := [], harness := (true, "c8f8a48094e47c380bc16337831f9286711b271bdc7175d4c637bad43d1c61c2"), looks := false }, told := true, goes := false }
def FnDecodePlaintextIgnoresOneMoreZeroOfPaddingToldSaid : Prop := Claim7.holds Tryf.pinned (.plain (OpenSpec.ofChange fnDecodePlaintextIgnoresOneMoreZeroOfPaddingSpec)) fnDecodePlaintextIgnoresOneMoreZeroOfPaddingCard
/-- ITS FALSE NEIGHBOUR. Refute it at one input. -/
def FnDecodePlaintextIgnoresOneMoreZeroOfPaddingToldWrongFalsely : Prop := Claim7.holds Tryf.pinned (.plain (OpenSpec.ofChange fnDecodePlaintextIgnoresOneMoreZeroOfPaddingWrong)) fnDecodePlaintextIgnoresOneMoreZeroOfPaddingCard
end Rows
end Go.Proofs.Qxb6628317aFmt
