/-
  SEAT b6628317aF: an argument of type []byte, opened.
-/
import Derived.Test.Qxb6628317aFmtRow
import Derived.ProofKit
import Derived.OpenShut
import Derived.ChangeOld
namespace Go.Proofs.Qxb6628317aFmt
open Go.ChangeShapes Go.WideShapes Go.ChangeAt Go.RowKit
set_option linter.unusedVariables false

theorem cells5 : Tryf.prog.cellsOf 5 = 1 := by kernel_rfl

theorem byte_back {z : Int} (h : (Lit.int .u8 z).wf = true) : ((UInt8.ofNat z.toNat).toNat : Int) = z := by
  have h1 : IntKind.u8.min = 0 := rfl
  have h2 : IntKind.u8.max = 255 := rfl
  simp only [Lit.wf, Bool.and_eq_true, decide_eq_true_eq] at h
  have : z.toNat < 256 := by omega
  rw [UInt8.toNat_ofNat_of_lt' this]
  omega

/-- what an argument of type []byte is: without elements, or the bytes f in memory -/
def Came (W : World) (ao : Option Addr) (L : Nat) : Prop :=
  L = 0 ∨ ∃ (b o : Nat) (f : Nat → UInt8), ao = some ⟨b, o, none⟩ ∧ L ≤ maxLen ∧ ∀ j, j < L → W.cell? ⟨b, o + j, none⟩ = some (.int .u8 ((f j).toNat : Int))

theorem open_bytes {H : Type} {enc : TypeId × Value → H} {W : World} {ao : Option Addr} {len cap : Nat} {d : DataW H} {p : List MemPlace} (h : DataW.Trod enc Tryf.prog W 0 (fun _ => true) true 22 (.slice ao len cap) d p) : Came W ao len := by
  obtain ⟨fuel, hf⟩ := h
  rcases open_ints Tryf.underlying22 Tryf.underlying5 cells5 hf with ⟨hcs, _⟩ | ⟨a, l, c, zs, hcs, _, hl, hm, hz, _, hcell, hwz⟩
  · simp [Value.cells] at hcs
    obtain ⟨rfl, rfl, rfl⟩ := hcs
    exact Or.inl rfl
  · simp [Value.cells] at hcs
    obtain ⟨rfl, rfl, rfl⟩ := hcs
    simp only [if_true] at hz
    by_cases h0 : len = 0
    · subst h0
      exact Or.inl rfl
    · obtain ⟨b, off, spot⟩ := a
      have hspot : spot = none := by simpa [Addr.add] using World.cell?_spot (hcell 0 (by omega))
      subst hspot
      refine Or.inr ⟨b, off, (fun j => UInt8.ofNat (zs.getD j 0).toNat), rfl, by omega, (fun j hj => ?_)⟩
      have hjz : j < zs.length := by omega
      have := hcell j hjz
      rw [Addr.add_lit] at this
      have e1 : zs.getD j 0 = zs[j] := by simp [List.getD, hjz]
      rw [this]
      show _ = some (Value.int .u8 ((UInt8.ofNat (zs.getD j 0).toNat).toNat : Int))
      rw [byte_back (by rw [e1]; exact hwz _ (List.getElem_mem hjz))]
end Go.Proofs.Qxb6628317aFmt
