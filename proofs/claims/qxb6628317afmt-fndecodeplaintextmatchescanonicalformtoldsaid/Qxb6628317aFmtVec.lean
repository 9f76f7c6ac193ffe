/-
  SEAT b6628317aF: binary.BigEndian.Uint16 and readVector, walked.
-/
import Derived.Test.Qxb6628317aFmtErr
namespace Go.Proofs.Qxb6628317aFmt
open Go.RowKit Go.Lib
set_option linter.unusedVariables false

/-- two bytes, the greater first -/
def be2 (x y : UInt8) : Nat := x.toNat * 256 + y.toNat
theorem be2_lt (x y : UInt8) : be2 x y < 65536 := by have := x.toNat_lt; have := y.toNat_lt; unfold be2; omega
theorem u8_le (u : UInt8) : (0 : Int) ≤ (u.toNat : Int) ∧ (u.toNat : Int) ≤ 255 := by have := u.toNat_lt; omega

theorem or16 (x y : UInt8) : bits .or .u16 (y.toNat : Int) ((x.toNat : Int) * 256) = (be2 x y : Int) := by
  have := x.toNat_lt; have := y.toNat_lt
  rw [u16_or8 _ _ (by omega) (by omega) (by omega) (by omega) (by omega)]
  unfold be2; omega
theorem wraps_i64 (n : Int) (h₀ : 0 ≤ n) (h₁ : n < 2 ^ 16) : IntKind.i64.wrap n = n := by rw [IntKind.wrap_i64]; omega
theorem or64 (x y : UInt8) : bits .or .i64 ((x.toNat : Int) * 256) (y.toNat : Int) = (be2 x y : Int) := by
  have := x.toNat_lt; have := y.toNat_lt
  rw [bits_join .i64 16 (by decide) wraps_i64 8 _ _ (by omega) (by omega) (by omega) (by omega) (by omega) (by omega)]
  unfold be2; omega

set_option maxHeartbeats 800000 in
theorem u16_any (x y : UInt8) (g o L C : Nat) (w : World) (hL : 2 ≤ L) (c0 : w.cell? ⟨g, o, none⟩ = some (.int .u8 (x.toNat : Int))) (c1 : w.cell? ⟨g, o + 1, none⟩ = some (.int .u8 (y.toNat : Int))) :
    Calls Tryf.prog 14 #[.agg #[], .slice (some ⟨g, o, none⟩) L C] w fun e w' => e = .returned (.int .u16 (be2 x y : Int)) ∧ Below w.heap.size w w' := by
  have hx := u8_le x
  have hy := u8_le y
  have l0 : 0 < L := by omega
  have l1 : (1 : Int) < (L : Int) := by omega
  have ho := or16 x y
  have hw : IntKind.u16.wrap ((x.toNat : Int) * 256) = (x.toNat : Int) * 256 := u16_wrap_id _ (by omega) (by omega)
  have hlt : g < w.heap.size := World.block_lt_of_cell? _ _ c0
  have d0 : (w.alloc (.cells #[] 41)).cell? ⟨g, o, none⟩ = some (.int .u8 (x.toNat : Int)) := by rw [World.cell?_alloc_lt _ _ _ hlt]; exact c0
  have d1 : (w.alloc (.cells #[] 41)).cell? ⟨g, o + 1, none⟩ = some (.int .u8 (y.toNat : Int)) := by rw [World.cell?_alloc_lt _ _ _ hlt]; exact c1
  have hB : Below w.heap.size w (w.alloc (.cells #[] 41)) := (Below.refl _ _).alloc (Nat.le_refl _) _
  have HB : Hid (Below w.heap.size w (w.alloc (.cells #[] 41))) := hB
  clear hB c0 c1
  go_enter Tryf.func14, Tryf.ntmps14
  go_wp2_with fail
  go_big_region
  go_wp2_with fail
  go_ret
  exact ⟨rfl, HB.out.drew⟩

/-- the offset behind x[k:] at capacity C -/
def offAt (o k C : Nat) : Nat := if C = k then o else o + k
theorem offAt_lt {o k C : Nat} (h : k < C) : offAt o k C = o + k := by unfold offAt; rw [if_neg (by omega)]

theorem sliceVec1 (g o L C n : Nat) (w : World) (h : 2 + n ≤ C) : (Instr.slice 22 (.slice (some ⟨g, o, none⟩) L C) (some (.int .i64 2)) (some (.int .i64 (2 + (n : Int)))) none).run Tryf.prog w = .ok (.slice (some ⟨g, offAt o 2 C, none⟩) n (C - 2)) w := by
  have h1 : (0 : Int) ≤ 2 + (n : Int) ∧ 2 + (n : Int) ≤ (C : Int) := by omega
  have h2 : (2 : Int) ≤ max (2 + (n : Int)) 0 := by omega
  have h3 : (2 + (n : Int)).toNat - 2 = n := by omega
  simp [go_sem, h1, h2, h3, offAt]
  split <;> rfl
theorem sliceVec2 (g o L C n : Nat) (w : World) (h : 2 + n ≤ L) (hC : L ≤ C) : (Instr.slice 22 (.slice (some ⟨g, o, none⟩) L C) (some (.int .i64 (2 + (n : Int)))) none none).run Tryf.prog w = .ok (.slice (some ⟨g, offAt o (2 + n) C, none⟩) (L - (2 + n)) (C - (2 + n))) w := by
  have h1 : (0 : Int) ≤ 2 + (n : Int) ∧ 2 + (n : Int) ≤ (L : Int) := by omega
  have h3 : (2 + (n : Int)).toNat = 2 + n := by omega
  simp [go_sem, h1, h3, offAt]
  split <;> rfl

theorem vec_short (ao : Option Addr) (L C : Nat) (w : World) (hL : L < 2) : Calls Tryf.prog 11 #[.slice ao L C] w fun e w' => e = .returned (.tuple #[.slice none 0 0, .slice none 0 0, .bool false]) ∧ w' = w := by
  have h : (L : Int) < 2 := by omega
  go_enter Tryf.func11, Tryf.ntmps11
  go_wp2
  go_ret3
  exact ⟨rfl, rfl⟩

set_option maxHeartbeats 800000 in
theorem vec_over (x y : UInt8) (g o L C : Nat) (w : World) (hL : 2 ≤ L) (hm : C ≤ maxLen) (hC : L ≤ C) (ho : L - 2 < be2 x y) (c0 : w.cell? ⟨g, o, none⟩ = some (.int .u8 (x.toNat : Int))) (c1 : w.cell? ⟨g, o + 1, none⟩ = some (.int .u8 (y.toNat : Int))) :
    Calls Tryf.prog 11 #[.slice (some ⟨g, o, none⟩) L C] w fun e w' => e = .returned (.tuple #[.slice none 0 0, .slice none 0 0, .bool false]) ∧ Below w.heap.size w w' := by
  have hu := u16_any x y g o L C w hL c0 c1
  have hlt := be2_lt x y
  generalize be2 x y = n at *
  unfold maxLen at hm
  have h : ¬ (L : Int) < 2 := by omega
  have h2 : (L : Int) - 2 < (n : Int) := by omega
  clear c0 c1 ho
  go_enter Tryf.func11, Tryf.ntmps11
  go_wp2_with fail
  refine hu.mono ?_
  rintro e w1 ⟨rfl, hb⟩
  have HB : Hid (Below w.heap.size w w1) := hb
  clear hb
  go_wp2_with fail
  go_ret3
  exact ⟨rfl, HB.out⟩

set_option maxHeartbeats 800000 in
theorem vec_ok (x y : UInt8) (g o L C : Nat) (w : World) (hL : 2 + be2 x y ≤ L) (hm : C ≤ maxLen) (hC : L ≤ C) (c0 : w.cell? ⟨g, o, none⟩ = some (.int .u8 (x.toNat : Int))) (c1 : w.cell? ⟨g, o + 1, none⟩ = some (.int .u8 (y.toNat : Int))) :
    Calls Tryf.prog 11 #[.slice (some ⟨g, o, none⟩) L C] w fun e w' => e = .returned (.tuple #[.slice (some ⟨g, offAt o 2 C, none⟩) (be2 x y) (C - 2), .slice (some ⟨g, offAt o (2 + be2 x y) C, none⟩) (L - (2 + be2 x y)) (C - (2 + be2 x y)), .bool true]) ∧ Below w.heap.size w w' := by
  have hu := u16_any x y g o L C w (by omega) c0 c1
  have hlt := be2_lt x y
  generalize be2 x y = n at *
  unfold maxLen at hm
  have h : ¬ (L : Int) < 2 := by omega
  have h2 : ¬ (L : Int) - 2 < (n : Int) := by omega
  have s1 := fun w => sliceVec1 g o L C n w (by omega)
  have s2 := fun w => sliceVec2 g o L C n w hL hC
  clear c0 c1
  go_enter Tryf.func11, Tryf.ntmps11
  go_wp2_with fail
  refine hu.mono ?_
  rintro e w1 ⟨rfl, hb⟩
  have HB : Hid (Below w.heap.size w w1) := hb
  clear hb
  go_wp2_with fail
  go_big_region
  go_wp2_with fail
  go_ret3
  exact ⟨rfl, HB.out.drew⟩
end Go.Proofs.Qxb6628317aFmt
