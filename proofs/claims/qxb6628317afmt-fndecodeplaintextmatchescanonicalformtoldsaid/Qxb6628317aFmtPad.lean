/-
  SEAT b6628317aF: FnDecodePlaintextIgnoresOneMoreZeroOfPadding: the plain law.
-/
import Derived.Test.Qxb6628317aFmtRow
namespace Go.Proofs.Qxb6628317aFmt
set_option linter.unusedVariables false

/-- the padding grown by a zero -/
def grown (f : Nat → UInt8) (L n : Nat) (hi lo : UInt8) (i : Nat) : UInt8 := if i = L then 0 else if i = 3 + n then lo else if i = 2 + n then hi else f i
/-- .. by the byte c -/
def spoilt (f : Nat → UInt8) (L n : Nat) (hi lo c : UInt8) (i : Nat) : UInt8 := if i = L then c else grown f L n hi lo i

section
variable {f : Nat → UInt8} {L n : Nat} {hi lo c : UInt8}
theorem grown_at {i : Nat} (h1 : i ≠ L) (h2 : i ≠ 3 + n) (h3 : i ≠ 2 + n) : grown f L n hi lo i = f i := by unfold grown; rw [if_neg h1, if_neg h2, if_neg h3]
theorem spoilt_at {i : Nat} (h1 : i ≠ L) : spoilt f L n hi lo c i = grown f L n hi lo i := by unfold spoilt; rw [if_neg h1]
theorem spoilt_last : spoilt f L n hi lo c L = c := by unfold spoilt; rw [if_pos rfl]
theorem spoilt_zero : spoilt f L n hi lo 0 = grown f L n hi lo := by
  funext i
  unfold spoilt grown
  by_cases e : i = L
  · rw [if_pos e, if_pos e]
  · rw [if_neg e]

theorem spoilt_n (hn : nOf f = n) (hL : 4 + n ≤ L) : nOf (spoilt f L n hi lo c) = n := by
  unfold nOf at hn ⊢
  rw [spoilt_at (by omega), spoilt_at (by omega), grown_at (by omega) (by omega) (by omega), grown_at (by omega) (by omega) (by omega), hn]
theorem spoilt_m (hn : nOf f = n) (hL : 4 + n ≤ L) : mOf (spoilt f L n hi lo c) = be2 hi lo := by
  unfold mOf
  rw [spoilt_n hn hL, spoilt_at (by omega), spoilt_at (by omega)]
  have e1 : grown f L n hi lo (2 + n) = hi := by unfold grown; rw [if_neg (by omega), if_neg (by omega), if_pos rfl]
  have e2 : grown f L n hi lo (3 + n) = lo := by unfold grown; rw [if_neg (by omega), if_pos rfl]
  rw [e1, e2]

theorem spoilt_good (hn : nOf f = n) (hL : 4 + n ≤ L) (hm : be2 hi lo = mOf f + 1) : Good (L + 1) (spoilt f L n hi lo c) ↔ (Good L f ∧ c = 0) := by
  unfold Good
  rw [spoilt_n hn hL, spoilt_m hn hL, hm, hn]
  constructor
  · rintro ⟨h1, h2, h3⟩
    refine ⟨⟨h1, by omega, fun j h4 h5 => ?_⟩, ?_⟩
    · have := h3 j h4 (by omega)
      rwa [spoilt_at (by omega), grown_at (by omega) (by omega) (by omega)] at this
    · have := h3 L (by omega) (by omega)
      rwa [spoilt_last] at this
  · rintro ⟨⟨h1, h2, h3⟩, rfl⟩
    refine ⟨h1, by omega, fun j h4 h5 => ?_⟩
    by_cases e : j = L
    · subst e; exact spoilt_last
    · rw [spoilt_at e, grown_at e (by omega) (by omega)]
      exact h3 j h4 (by omega)
theorem grown_good (hn : nOf f = n) (hL : 4 + n ≤ L) (hm : be2 hi lo = mOf f + 1) : Good (L + 1) (grown f L n hi lo) ↔ Good L f := by
  have := spoilt_good (c := 0) hn hL hm
  rw [spoilt_zero] at this
  rw [this]
  exact ⟨fun h => h.1, fun h => ⟨h, rfl⟩⟩
theorem grown_n (hn : nOf f = n) (hL : 4 + n ≤ L) : nOf (grown f L n hi lo) = n := by
  have := spoilt_n (hi := hi) (lo := lo) (c := 0) hn hL
  rwa [spoilt_zero] at this
end
end Go.Proofs.Qxb6628317aFmt
