/-
  SEAT b6628317aF: errors.New, fmt.Errorf (its stop), binary.BigEndian.Uint16, walked FOR EVERY F.
-/
import Derived.Test.Qxb6628317aFmtChecked
import Derived.Stop.CallBack
import Derived.Stop.IfaceNil
import Derived.WalkKit
import Derived.WalkLawsBesides
import Derived.WalkSpells
import Derived.Deep.OwnRows
import Derived.RegionTactic
import Derived.Deep.RegionLaw
import Derived.Lib.EndianBits
import GoSem.ClaimData
namespace Go.Proofs.Qxb6628317aFmt
open Go.RowKit Go.Extern.Stop Go.Stop Go.Extern
set_option linter.unusedVariables false

theorem new_any (s : ByteArray) (w : World) : Calls Tryf.prog 12 #[.string s] w fun e w' => e = .returned (.iface 43 (.pointer (some ⟨w.heap.size, 0, none⟩))) ∧ w' = w.alloc (.cells #[.string s] 45) := by
  go_enter Tryf.func12, Tryf.ntmps12
  go_wp2
  go_ret
  exact ⟨rfl, rfl⟩

/-- the format of the one call of fmt.Errorf -/
def fmtB : ByteArray := ⟨#[111, 100, 111, 104, 58, 32, 37, 100, 32, 98, 121, 116, 101, 115, 32, 102, 111, 108, 108, 111, 119, 32, 116, 104, 101, 32, 112, 108, 97, 105, 110, 116, 101, 120, 116, 39, 115, 32, 112, 97, 100, 100, 105, 110, 103]⟩
theorem call15 (args : Array Value) (w : World) : (callFunc 15 args).run Tryf.prog w = ((FmtStop.errorf #[9, 46] #[28] args).run Tryf.prog w).andThen fun v w' => .ok (.value v) w' :=
  run_callFunc_extern Tryf.func15 (by kernel_rfl) (by kernel_rfl) (by kernel_rfl) (by kernel_rfl) args w
theorem guardF (name : String) (w : World) : (FmtStop.guard name).run Tryf.prog w = .ok () w := by kernel_rfl
theorem fmt0 : FmtStop.printed? fmtB 1 = some [(0, 100, false)] := by kernel_rfl
theorem fmt0r (w : World) : (FmtDoors.printed fmtB 1).run Tryf.prog w = .ok [(0, 100, false)] w := by kernel_rfl
def shape3 : List UInt8 := [5, 3, 0, 0, 0, 0, 0, 0, 0, 105, 110, 116]
theorem op3 (name : String) (x : Int) (w : World) : (FmtStop.operand name false 100 false (.iface 3 (.int .i64 x))).run Tryf.prog w = .ok (shape3, Go.Extern.Stop.digits 8 (x % 2 ^ 64).toNat) w := by kernel_rfl
theorem op3w (name : String) (x : Int) (w : World) : (FmtStop.operand name true 100 false (.iface 3 (.int .i64 x))).run Tryf.prog w = .ok (shape3, Go.Extern.Stop.digits 8 (x % 2 ^ 64).toNat) w := by kernel_rfl
theorem strict3 (name : String) (x : Int) (w : World) : (FmtStop.strict name (.iface 3 (.int .i64 x))).run Tryf.prog w = .ok (shape3, Go.Extern.Stop.digits 8 (x % 2 ^ 64).toNat) w := by kernel_rfl
theorem ptr43 (w : World) : (FmtStop.ptrTo "errors.errorString").run Tryf.prog w = .ok 43 w := by kernel_rfl
theorem elem43 (w : World) : (elemOf 43).run Tryf.prog w = .ok 45 w := by kernel_rfl
theorem isError43 (w : World) : (FmtDoors.textMethod 43 "Error").run Tryf.prog w = .ok true w := by kernel_rfl

set_option maxHeartbeats 800000 in
theorem errorf_any (F : Interp) (x : Int) (blk : Nat) (w : World) (hF : F.answers w.tape) (hc0 : w.cell? ⟨blk, 0, none⟩ = some (.iface 3 (.int .i64 x))) :
    Calls Tryf.prog 13 #[.string fmtB, .slice (some ⟨blk, 0, none⟩) 1 1] w fun e w' => (∃ a, e = .returned (.iface 43 (.pointer (some a)))) ∧ Below w.heap.size w w' := by
  have hF' := answers_open hF
  have h1 := call15
  have h2 := guardF
  have h3 := fmt0
  have h4 := fmt0r
  have h5 := op3
  have h6 := op3w
  have h7 := strict3
  have h8 := ptr43
  have h9 := elem43
  have h10 := isError43
  go_enter Tryf.func13, Tryf.ntmps13
  go_wp2
  go_ret
  exact ⟨⟨_, rfl⟩, ((Below.refl _ _).alloc (Nat.le_refl _) _).drew⟩
end Go.Proofs.Qxb6628317aFmt
