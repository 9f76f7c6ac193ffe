/-
  SEAT b6628162a: (*Line).Write, walked; the pieces written one by one.
-/
import Derived.Test.Qxb6628162aLine
import Derived.Deep.RegionWith
namespace Go.Proofs.Qxb6628162a
open Go.RowKit
set_option linter.unusedVariables false

set_option maxHeartbeats 1000000 in
/-- the flag alone -/
theorem flag_at {b : Nat} {p v : Value} {c : Bool} {w : World} (hbk : w.heap[b]? = some (.cells #[p, v, .bool c] 37 (0, 0))) :
    Calls Try.prog 9 #[.pointer (some ⟨b, 0, none⟩)] w fun e w' => e = .returned (.bool c) ∧ w' = w := by
  have c2 : w.cell? ⟨b, 2, none⟩ = some (.bool c) := by rw [Lib.cell_of_heap hbk]; rfl
  go_enter Try.func9, Try.ntmps9
  go_wp2
  go_ret
  exact ⟨rfl, rfl⟩

set_option maxHeartbeats 1000000 in
/-- a line that is cut takes nothing more -/
theorem write_cut {B b : Nat} {l : Text} {w : World} (s : ByteArray) (h : IsLine B b l true w) :
    Calls Try.prog 7 #[.pointer (some ⟨b, 0, none⟩), .string s] w fun e w' => e = .returned (.tuple #[]) ∧ w' = w := by
  obtain ⟨p, h⟩ := h.at
  obtain ⟨ao, cap, hb, _⟩ := h.cells
  have c2 : w.cell? ⟨b, 2, none⟩ = some (.bool true) := by rw [Lib.cell_of_heap hb]; rfl
  go_enter Try.func7, Try.ntmps7
  go_wp2
  exact bodyPost_ret (v := .tuple #[]) (by simp [results, Try.results7, go_sem]) rfl ⟨rfl, rfl⟩

theorem IsLine.drew {B b : Nat} {l : Text} {c : Bool} {w : World} (h : IsLine B b l c w) : IsLine B b l c w.drew := h
theorem IsLine.setCut {B b : Nat} {l : Text} {c : Bool} {w : World} (h : IsLine B b l c w) (d : Bool) : IsLine B b l d (w.setCell ⟨b, 2, none⟩ (.bool d)) := by
  rcases h with h | h
  · exact Or.inl (h.setCut d)
  · exact Or.inr (h.setCut d)

set_option maxHeartbeats 2000000 in
set_option maxRecDepth 100000 in
theorem write_on {B b : Nat} {l : Text} {w : World} (s : Text) (h : IsLine B b l false w) (hl : l.length ≤ 4096) (hs : s.length ≤ 1048576) (hBw : B ≤ w.heap.size) :
    Calls Try.prog 7 #[.pointer (some ⟨b, 0, none⟩), .string (str s)] w fun e w' => e = .returned (.tuple #[]) ∧ IsLine B b (l ++ cutL s (4096 - l.length)) (decide (4096 - l.length < s.length)) w' ∧ Below B w w' := by
  obtain ⟨p, hp⟩ := h.at
  have hB := hp.1
  obtain ⟨ao, cap, hb, _⟩ := hp.cells
  have c2 : w.cell? ⟨b, 2, none⟩ = some (.bool false) := by rw [Lib.cell_of_heap hb]; rfl
  have f2 : w.frozen? ⟨b, 2, none⟩ = false := Lib.frozen_of_heap hb 2
  have hss : (str s).size = s.length := rfl
  have hcl := cutL_length_le s (4096 - l.length)
  have hroom : (4096 : Int) - (l.length : Int) = ((4096 - l.length : Nat) : Int) := by omega
  clear hb hp
  go_enter Try.func7, Try.ntmps7
  go_wp2_with (go_at_call 12; refine (len_any h).mono ?_; rintro e w' ⟨rfl, rfl⟩)
  generalize hd : decide (4096 - l.length < s.length) = d
  have h2 := h.setCut d
  have hb2 : Below B w' (w'.setCell ⟨b, 2, none⟩ (.bool d)) := (Below.refl _ _).setCell (p := ⟨b, 2, none⟩) hB _
  generalize hw2 : w'.setCell ⟨b, 2, none⟩ (.bool d) = w2 at h2 hb2
  have hBw2 : B ≤ w2.heap.size := Nat.le_trans hBw hb2.size
  clear hw2 c2 f2 h
  go_region_with (first | (go_at_call 10; refine (cut_any _ _ _ (by unfold maxLen; omega) (by omega)).mono ?_; rintro e w3 ⟨rfl, rfl⟩) | (go_at_call 13; refine (writeString_any _ h2.drew (by omega) hBw2).mono ?_; rintro e w3 ⟨v, rfl, hl3, hb3⟩))
  all_goals
    go_wp2
    go_end0
    exact ⟨rfl, by rw [hd]; exact Or.inr hl3, hb2.trans (Below.trans ((Below.refl B w2).drew) hb3)⟩

/-- (*Line).Write: the line holds what Cut leaves of all that was written; s begins with the start of a character -/
theorem write_any {B b : Nat} {j : Text} {w : World} (s : Text) (h : IsLine B b (held j) (isCut j) w) (hg : Good s) (hs : s.length ≤ 1048576) (hBw : B ≤ w.heap.size) :
    Calls Try.prog 7 #[.pointer (some ⟨b, 0, none⟩), .string (str s)] w fun e w' => e = .returned (.tuple #[]) ∧ IsLine B b (held (j ++ s)) (isCut (j ++ s)) w' ∧ Below B w w' := by
  by_cases hc : 4096 < j.length
  · have e1 : isCut j = true := by unfold isCut; simpa using hc
    rw [e1] at h
    rw [held_done s hc, isCut_done s e1]
    refine (write_cut (str s) h).mono fun e w' ⟨he, hw⟩ => ⟨he, ?_, ?_⟩
    · rw [hw]; exact h
    · rw [hw]; exact Below.refl _ _
  · have e1 : isCut j = false := by unfold isCut; simpa using hc
    rw [e1, held_short (by omega)] at h
    rw [held_step (by omega) hg, isCut_step (by omega)]
    exact write_on s h (by omega) hs hBw
end Go.Proofs.Qxb6628162a
