/-
  SEAT b6628317aF: zzSameBytes, zzCloneBytes, the two bounds, walked.
-/
import Derived.Test.Qxb6628317aFmtDecAny
import Derived.Lib.SliceRun
namespace Go.Proofs.Qxb6628317aFmt
open Go.RowKit Go.Lib
set_option linter.unusedVariables false

theorem info5 : (Tryf.prog.info? 5).map (fun i => (i.zero, i.size, i.bytes)) = some (some (.int .u8 0), 1, 1) := by kernel_rfl

/-- byte i, as a cell holds it -/
def cellF (f : Nat → UInt8) (i : Nat) : Value := .int .u8 ((f i).toNat : Int)
/-- the first k have been written, the others are zero -/
def cellTo (f : Nat → UInt8) (k i : Nat) : Value := if i < k then cellF f i else .int .u8 0
theorem cellTo_int (f : Nat → UInt8) (k i : Nat) : ∃ x, cellTo f k i = .int .u8 x := by
  unfold cellTo cellF
  split <;> exact ⟨_, rfl⟩
theorem cellTo_step (f : Nat → UInt8) (k i : Nat) : (if i = k then Value.int .u8 ((f k).toNat : Int) else cellTo f k i) = cellTo f (k + 1) i := by
  unfold cellTo
  by_cases e : i = k
  · subst e; rw [if_pos rfl, if_pos (by omega)]; rfl
  · rw [if_neg e]
    by_cases e2 : i < k
    · rw [if_pos e2, if_pos (by omega)]
    · rw [if_neg e2, if_neg (by omega)]

theorem bytes5 (ao : Option Addr) (L C : Nat) (w : World) (hm : L ≤ maxLen) : Calls Tryf.prog 5 #[.slice ao L C] w fun e w' => ∃ r, e = .returned (.bool r) ∧ w' = w := by
  unfold maxLen at hm
  by_cases h : 1048576 < L
  · go_enter Tryf.func5, Tryf.ntmps5
    go_wp2
    go_ret
    exact ⟨false, rfl, rfl⟩
  · go_enter Tryf.func5, Tryf.ntmps5
    go_wp2
    go_ret
    exact ⟨true, rfl, rfl⟩
theorem bytes10 (ao : Option Addr) (L C : Nat) (x : Int) (w : World) (hm : L ≤ maxLen) : Calls Tryf.prog 10 #[.slice ao L C, .int .u8 x] w fun e w' => ∃ r, e = .returned (.bool r) ∧ w' = w := by
  unfold maxLen at hm
  by_cases h : 1048576 < L
  · go_enter Tryf.func10, Tryf.ntmps10
    go_wp2
    go_ret
    exact ⟨false, rfl, rfl⟩
  · go_enter Tryf.func10, Tryf.ntmps10
    go_wp2
    go_ret
    exact ⟨true, rfl, rfl⟩

theorem eql22 (w : World) (a : Option Addr) (n c n' c' : Nat) : (binOp .eql 22 (.slice a n c) (.slice none n' c')).run Tryf.prog w = .ok (.bool a.isNone) w := Lib.run_eql_slice_nil w _ _ a n c n' c' Tryf.underlying22

set_option maxHeartbeats 800000 in
/-- zzCloneBytes -/
theorem clone_some (f : Nat → UInt8) (b o L c : Nat) (w : World) (hl : L ≤ 1048576) (hc : ∀ j, j < L → w.cell? ⟨b, o + j, none⟩ = some (.int .u8 ((f j).toNat : Int))) :
    Calls Tryf.prog 6 #[.slice (some ⟨b, o, none⟩) L c] w fun e w' => e = .returned (.slice (some ⟨w.heap.size, 0, none⟩) L L) ∧ w'.rowIs w.heap.size 5 L (cellF f) ∧ Below w.heap.size w w' ∧ w'.heap.size = w.heap.size + 1 := by
  have q22 := eql22
  have hmk := run_make_row' (P := Tryf.prog) 22 5 (.int .u8 0) 1 Tryf.underlying22 info5 rfl .i64 .i64 L (by omega) (by omega)
  go_enter Tryf.func6, Tryf.ntmps6
  go_wp2
  clear hmk
  go_loopw [4] (fun i wr => ∃ k : Nat, k ≤ L ∧ i = .int .i64 k ∧ wr.rowIs w.heap.size 5 L (cellTo f k) ∧ Below w.heap.size w wr ∧ wr.heap.size = w.heap.size + 1) (fun i _ => L - (intOf i).toNat)
  case atStart =>
    refine ⟨0, Nat.zero_le _, rfl, (World.rowIs_made w (.int .u8 0) L 5).congr (fun i _ => by simp [cellTo]), (Below.refl _ _).alloc (Nat.le_refl _) _, by simp⟩
  case round =>
    obtain ⟨k, hk, rfl, hrow, hbel, hsz⟩ := hrel
    by_cases hlt : k < L
    · have hb : b < w.heap.size := World.block_lt_of_cell? _ _ (hc k hlt)
      have h1 : wr.cell? ⟨b, o + k, none⟩ = some (.int .u8 ((f k).toNat : Int)) := (hbel.cell (by exact hb)).trans (hc k hlt)
      obtain ⟨x, hx⟩ := cellTo_int f k k
      have h2 : wr.cell? ⟨w.heap.size, k, none⟩ = some (.int .u8 x) := by rw [hrow.cell hlt, hx]
      have h3 : wr.frozen? ⟨w.heap.size, k, none⟩ = false := hrow.frozen k
      have b1 : (k : Int) < (L : Int) := by omega
      have HR : Hid (wr.rowIs w.heap.size 5 L (cellTo f k)) := hrow
      have HZ : Hid (wr.heap.size = w.heap.size + 1) := hsz
      clear hrow hsz hx
      go_wp2
      go_roundw
      case rel =>
        refine ⟨k + 1, by omega, by go_num, (HR.out.set k _).congr (fun i hi => cellTo_step f k i), hbel.setCell (Nat.le_refl _) _, ?_⟩
        have := HZ.out
        simpa [World.setCell] using this
      case measure => simp [intOf]; omega
    · go_wp2
      go_ret
      exact ⟨rfl, hrow.congr (fun i hi => by unfold cellTo; rw [if_pos (by omega)]), hbel, hsz⟩

theorem clone_nil (L c : Nat) (w : World) : Calls Tryf.prog 6 #[.slice none L c] w fun e w' => e = .returned (.slice none 0 0) ∧ w' = w := by
  have q22 := eql22
  go_enter Tryf.func6, Tryf.ntmps6
  go_wp2
  go_ret
  exact ⟨rfl, rfl⟩

set_option maxHeartbeats 400000 in
theorem clone_empty (a : Addr) (c : Nat) (w : World) : Calls Tryf.prog 6 #[.slice (some a) 0 c] w fun e w' => e = .returned (.slice (some ⟨w.heap.size, 0, none⟩) 0 0) ∧ Below w.heap.size w w' := by
  have q22 := eql22
  have hmk := run_make_row' (P := Tryf.prog) 22 5 (.int .u8 0) 1 Tryf.underlying22 info5 rfl .i64 .i64 0 (by omega) (by omega)
  simp only [Int.natCast_zero] at hmk
  go_enter Tryf.func6, Tryf.ntmps6
  go_wp2
  refine wp_loop_rounds 1 ?_
  rw [rounds_succ]
  go_wp2
  go_ret
  exact ⟨rfl, (Below.refl _ _).alloc (Nat.le_refl _) _⟩

/-- zzSameBytes: the answer -/
def SameE (e : Ending) (p : Prop) : Prop := (p ∧ e = .returned (.bool true)) ∨ (¬ p ∧ e = .returned (.bool false))

theorem same_len (a b : Option Addr) (L c M d : Nat) (w : World) (h : L ≠ M) : Calls Tryf.prog 9 #[.slice a L c, .slice b M d] w fun e w' => e = .returned (.bool false) ∧ w' = w := by
  have hne : ((L : Int) != (M : Int)) = true := by simp; omega
  go_enter Tryf.func9, Tryf.ntmps9
  go_wp2
  go_ret
  exact ⟨rfl, rfl⟩

set_option maxHeartbeats 800000 in
theorem same_any (f f' : Nat → UInt8) (g o c g' o' c' L : Nat) (w : World) (hm : L ≤ 2097152) (hc : ∀ j, j < L → w.cell? ⟨g, o + j, none⟩ = some (.int .u8 ((f j).toNat : Int))) (hc' : ∀ j, j < L → w.cell? ⟨g', o' + j, none⟩ = some (.int .u8 ((f' j).toNat : Int))) :
    Calls Tryf.prog 9 #[.slice (some ⟨g, o, none⟩) L c, .slice (some ⟨g', o', none⟩) L c'] w fun e w' => SameE e (∀ j, j < L → f j = f' j) ∧ Below w.heap.size w w' := by
  have hne : ((L : Int) != (L : Int)) = false := by simp
  go_enter Tryf.func9, Tryf.ntmps9
  go_wp2
  clear hne
  go_loopw [5] (fun i wr => ∃ k : Nat, k ≤ L ∧ i = .int .i64 k ∧ Hid (∀ j, j < k → f j = f' j) ∧ Below w.heap.size w wr) (fun i _ => L - (intOf i).toNat)
  case atStart => exact ⟨0, Nat.zero_le _, rfl, fun j h => absurd h (by omega), Below.refl _ _⟩
  case round =>
    obtain ⟨k, hk, rfl, HA, hbel⟩ := hrel
    have HB : Hid (Below w.heap.size w wr) := hbel
    clear hbel
    by_cases hlt : k < L
    · have h1 : wr.cell? ⟨g, o + k, none⟩ = some (.int .u8 ((f k).toNat : Int)) := (HB.out.cell (World.block_lt_of_cell? _ _ (hc k hlt))).trans (hc k hlt)
      have h2 : wr.cell? ⟨g', o' + k, none⟩ = some (.int .u8 ((f' k).toNat : Int)) := (HB.out.cell (World.block_lt_of_cell? _ _ (hc' k hlt))).trans (hc' k hlt)
      have b1 : (k : Int) < (L : Int) := by omega
      by_cases e : f k = f' k
      · have hne : (((f k).toNat : Int) != ((f' k).toNat : Int)) = false := by rw [e]; simp
        have HE : Hid (f k = f' k) := e
        clear e
        go_wp2_with fail
        go_big_region
        go_wp2_with fail
        go_roundw
        case rel =>
          refine ⟨k + 1, by omega, by go_num, fun j hj => ?_, HB.out.drew⟩
          by_cases e : j = k
          · subst e; exact HE.out
          · exact HA.out j (by omega)
        case measure => simp [intOf]; omega
      · have hne : (((f k).toNat : Int) != ((f' k).toNat : Int)) = true := by
          have : (f k).toNat ≠ (f' k).toNat := fun h => e (UInt8.toNat_inj.1 h)
          simp; omega
        have HE : Hid (f k ≠ f' k) := e
        clear e
        go_wp2_with fail
        go_big_region
        go_wp2_with fail
        go_ret
        exact ⟨Or.inr ⟨fun h => HE.out (h k hlt), rfl⟩, HB.out.drew⟩
    · go_wp2_with fail
      go_ret
      exact ⟨Or.inl ⟨fun j hj => HA.out j (by omega), rfl⟩, HB.out⟩
end Go.Proofs.Qxb6628317aFmt
