/-
  SEAT b6628240a: zzSix, walked.
-/
import Derived.Test.Qxb6628240aWalks
namespace Go.Proofs.Qxb6628240a
open Go.RowKit
set_option linter.unusedVariables false

theorem Try.info5 : (Try.prog.info? 5).map (fun i => (i.zero, i.size, i.bytes)) = some (some (.int .u8 0), 1, 1) := by kernel_rfl

/-- six copies of a byte -/
def six (u : UInt8) : ByteArray := ⟨(List.replicate 6 u).toArray⟩
theorem six_size (u : UInt8) : (six u).size = 6 := rfl
theorem isId_six (u : UInt8) : isId (six u) = alI (u.toNat : Int) := by
  have e : isId (six u) = (true && (alI u.toNat && (alI u.toNat && (alI u.toNat && (alI u.toNat && (alI u.toNat && (alI u.toNat && true))))))) := rfl
  rw [e]
  cases alI (u.toNat : Int) <;> rfl

/-- the first k cells have been written -/
def cellTo (u : UInt8) (k i : Nat) : Value := if i < k then .int .u8 (u.toNat : Int) else .int .u8 0
theorem cellTo_int (u : UInt8) (k i : Nat) : ∃ x, cellTo u k i = .int .u8 x := by
  unfold cellTo
  split <;> exact ⟨_, rfl⟩

set_option maxHeartbeats 800000 in
theorem six_any (u : UInt8) (w : World) : Calls Try.prog 6 #[.int .u8 (u.toNat : Int)] w fun e w' => e = .returned (.string (six u)) ∧ Below w.heap.size w w' := by
  have hmk := run_make_row' (P := Try.prog) 26 5 (.int .u8 0) 1 Try.underlying26 Try.info5 rfl .i64 .i64 6 (by omega) (by omega)
  have hmk' : ∀ w : World, (Instr.makeSlice 26 (.int .i64 6) (.int .i64 6)).run Try.prog w = .ok (.slice (some ⟨w.heap.size, 0, none⟩) 6 6) (w.alloc (.cells (madeCells #[.int .u8 0] 6) 5)) := hmk
  clear hmk
  go_enter Try.func6, Try.ntmps6
  go_wp2
  go_loopw [4] (fun i wr => ∃ k : Nat, k ≤ 6 ∧ i = .int .i64 k ∧ wr.rowIs w.heap.size 5 6 (cellTo u k) ∧ Below w.heap.size w wr) (fun i _ => 6 - (intOf i).toNat)
  case atStart =>
    refine ⟨0, Nat.zero_le _, rfl, (World.rowIs_made w (.int .u8 0) 6 5).congr (fun i _ => by simp [cellTo]), (Below.refl _ _).alloc (Nat.le_refl _) _⟩
  case round =>
    obtain ⟨k, hk, rfl, hrow, hbel⟩ := hrel
    by_cases hlt : k < 6
    · obtain ⟨x, hx⟩ := cellTo_int u k k
      have h2 : wr.cell? ⟨w.heap.size, k, none⟩ = some (.int .u8 x) := by rw [hrow.cell hlt, hx]
      have h3 : wr.frozen? ⟨w.heap.size, k, none⟩ = false := hrow.frozen k
      have b1 : (k : Int) < 6 := by omega
      have HR : Hid (wr.rowIs w.heap.size 5 6 (cellTo u k)) := hrow
      clear hrow hx
      go_wp2
      go_roundw
      case rel =>
        refine ⟨k + 1, by omega, by go_num, (HR.out.set k _).congr (fun i hi => ?_), hbel.setCell (Nat.le_refl _) _⟩
        unfold cellTo
        by_cases e : i = k
        · subst e; rw [if_pos rfl, if_pos (by omega)]
        · rw [if_neg e]
          by_cases e2 : i < k
          · rw [if_pos e2, if_pos (by omega)]
          · rw [if_neg e2, if_neg (by omega)]
      case measure => simp [intOf]; omega
    · have hcv := run_convert_bytes_back (P := Try.prog) wr 26 9 5 ⟨w.heap.size, 0, none⟩ 6 (List.replicate 6 u) Try.underlying26 Try.underlying5 Try.underlying9 (fun j hj => by
        have hj6 : j < 6 := by simpa using hj
        rw [Addr.add_lit, Nat.zero_add, hrow.cell hj6]
        unfold cellTo
        rw [if_pos (by omega), List.getElem_replicate])
      have hcv' : (convert 26 9 (.slice (some ⟨w.heap.size, 0, none⟩) 6 6)).run Try.prog wr = .ok (.string (six u)) wr := hcv
      clear hcv
      go_wp2
      go_ret
      exact ⟨rfl, hbel⟩
end Go.Proofs.Qxb6628240a
