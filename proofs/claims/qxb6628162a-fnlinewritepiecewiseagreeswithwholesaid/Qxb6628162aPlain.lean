/-
  SEAT b6628162a: THE PLAIN LAWS: no Go in sight but the test on one byte. Texts cut at a bound; written piece by piece or whole.
-/
import Derived.Laws.Bits64
namespace Go.Proofs.Qxb6628162a

/-- utf8.RuneStart, as the walk spells it -/
def rsB (c : Int) : Bool := bits BinOp.and IntKind.u8 c 192 != 128

abbrev Text := List UInt8
/-- does byte i of l begin a character (or lie beyond l)? -/
def rsAt (l : Text) (i : Nat) : Bool := rsB ((l.getD i 0).toNat : Int)
/-- the greatest place at or before e at which no character is split; 0 if none -/
def back (l : Text) : Nat → Nat
  | 0 => 0
  | e + 1 => if rsAt l (e + 1) then e + 1 else back l e
def mark : Text := [226, 128, 166]
/-- bounded.Cut -/
def cutL (l : Text) (lim : Nat) : Text := if l.length ≤ lim then l else l.take (back l lim) ++ mark

theorem back_le (l : Text) : ∀ e, back l e ≤ e
  | 0 => Nat.le_refl _
  | e + 1 => by
    unfold back
    split
    · exact Nat.le_refl _
    · exact Nat.le_succ_of_le (back_le l e)

/-- what lies behind place e is not looked at -/
theorem back_append (l r : Text) : ∀ e, e < l.length → back (l ++ r) e = back l e
  | 0, _ => rfl
  | e + 1, h => by
    have ih := back_append l r e (by omega)
    unfold back
    have hr : rsAt (l ++ r) (e + 1) = rsAt l (e + 1) := by
      unfold rsAt
      rw [List.getD_eq_getElem?_getD, List.getD_eq_getElem?_getD, List.getElem?_append_left h]
    rw [hr, ih]

theorem cutL_append (l r : Text) (lim : Nat) (h : lim < l.length) : cutL (l ++ r) lim = cutL l lim := by
  unfold cutL
  rw [if_neg (by simp; omega), if_neg (by omega), back_append l r lim h, List.take_append_of_le_length (by have := back_le l lim; omega)]

/-- a text behind another, which begins with the start of a character -/
theorem back_behind (l s : Text) (hs : rsAt s 0 = true) : ∀ e, back (l ++ s) (l.length + e) = l.length + back s e
  | 0 => by
    cases hl : l.length with
    | zero => rfl
    | succ n =>
      have hr : rsAt (l ++ s) (n + 1) = true := by
        unfold rsAt at hs ⊢
        rw [List.getD_eq_getElem?_getD, List.getElem?_append_right (by omega), show n + 1 - l.length = 0 by omega, ← List.getD_eq_getElem?_getD]
        exact hs
      show back (l ++ s) (n + 1) = _
      unfold back
      rw [hr]
      rfl
  | e + 1 => by
    have ih := back_behind l s hs e
    have hr : rsAt (l ++ s) (l.length + e + 1) = rsAt s (e + 1) := by
      unfold rsAt
      rw [List.getD_eq_getElem?_getD, List.getD_eq_getElem?_getD, List.getElem?_append_right (by omega), show l.length + e + 1 - l.length = e + 1 by omega]
    show back (l ++ s) (l.length + e + 1) = _
    unfold back
    rw [hr, ih]
    cases rsAt s (e + 1) <;> simp [Nat.add_assoc]

/-- what a Line holds behind the text j: the text, and whether it is cut -/
def held (j : Text) : Text := cutL j 4096
def isCut (j : Text) : Bool := decide (4096 < j.length)

/-- a piece: empty, or it begins with the start of a character -/
def Good (s : Text) : Prop := s ≠ [] → rsAt s 0 = true

theorem held_short {j : Text} (h : j.length ≤ 4096) : held j = j := by unfold held cutL; rw [if_pos h]

/-- the step that is taken while the line is not cut -/
theorem held_step {j s : Text} (h : j.length ≤ 4096) (hg : Good s) : held (j ++ s) = j ++ cutL s (4096 - j.length) := by
  unfold held cutL
  by_cases hs : s.length ≤ 4096 - j.length
  · rw [if_pos (by simp; omega), if_pos hs]
  · have hne : s ≠ [] := fun e => by subst e; simp at hs
    rw [if_neg (by simp; omega), if_neg hs]
    have e := back_behind j s (hg hne) (4096 - j.length)
    rw [show j.length + (4096 - j.length) = 4096 by omega] at e
    rw [e, List.take_length_add_append, List.append_assoc]

theorem held_done {j : Text} (s : Text) (h : 4096 < j.length) : held (j ++ s) = held j := cutL_append j s 4096 h

theorem isCut_step {j s : Text} (h : j.length ≤ 4096) : isCut (j ++ s) = decide (4096 - j.length < s.length) := by
  unfold isCut
  rw [List.length_append]
  congr 1
  apply propext
  omega
theorem isCut_done {j : Text} (s : Text) (h : isCut j = true) : isCut (j ++ s) = true := by
  unfold isCut at h ⊢
  simp at h ⊢
  omega

theorem cutL_length_le (l : Text) (lim : Nat) : (cutL l lim).length ≤ lim + 3 := by
  unfold cutL
  split
  · omega
  · rw [List.length_append]
    have h1 := List.length_take_le (back l lim) l
    have h2 := back_le l lim
    have h3 : mark.length = 3 := rfl
    omega
end Go.Proofs.Qxb6628162a
