/-
  SEAT b6628317aF: DecodePlaintext, walked FOR EVERY F over what readVector gives.
-/
import Derived.Test.Qxb6628317aFmtVec
namespace Go.Proofs.Qxb6628317aFmt
open Go.RowKit Go.Lib Go.Extern.Stop Go.Stop Go.Extern
set_option linter.unusedVariables false

/-- a nil slice and an error -/
def DErr (e : Ending) : Prop := ∃ a, e = .returned (.tuple #[.slice none 0 0, .iface 43 (.pointer (some a))])
/-- the message and no error -/
def DMsg (e : Ending) (g o n C : Nat) : Prop := e = .returned (.tuple #[.slice (some ⟨g, o, none⟩) n C, .nilIface])
def VBad (e : Ending) : Prop := e = .returned (.tuple #[.slice none 0 0, .slice none 0 0, .bool false])
def VOk (e : Ending) (g o1 n C1 o2 R C2 : Nat) : Prop := e = .returned (.tuple #[.slice (some ⟨g, o1, none⟩) n C1, .slice (some ⟨g, o2, none⟩) R C2, .bool true])

theorem dec_1 (ao : Option Addr) (L C : Nat) (w : World) (hv1 : Calls Tryf.prog 11 #[.slice ao L C] w fun e w' => VBad e ∧ Below w.heap.size w w') :
    Calls Tryf.prog 8 #[.slice ao L C] w fun e w' => DErr e ∧ Below w.heap.size w w' := by
  go_enter Tryf.func8, Tryf.ntmps8
  go_wp2_with fail
  refine hv1.mono ?_
  rintro e w1 ⟨rfl, b1⟩
  have B1 : Hid (Below w.heap.size w w1) := b1
  clear b1 hv1
  go_wp2_with fail
  refine (new_any _ _).mono ?_
  rintro e w2 ⟨rfl, rfl⟩
  go_wp2_with fail
  go_ret2
  exact ⟨⟨_, rfl⟩, B1.out.alloc B1.out.size _⟩

theorem dec_2 (ao : Option Addr) (L C : Nat) (w : World) {g o1 C1 o2 R C2 : Nat} (hv1 : Calls Tryf.prog 11 #[.slice ao L C] w fun e w' => VOk e g o1 0 C1 o2 R C2 ∧ Below w.heap.size w w') :
    Calls Tryf.prog 8 #[.slice ao L C] w fun e w' => DErr e ∧ Below w.heap.size w w' := by
  go_enter Tryf.func8, Tryf.ntmps8
  go_wp2_with fail
  refine hv1.mono ?_
  rintro e w1 ⟨rfl, b1⟩
  have B1 : Hid (Below w.heap.size w w1) := b1
  clear b1 hv1
  go_wp2_with fail
  refine (new_any _ _).mono ?_
  rintro e w2 ⟨rfl, rfl⟩
  go_wp2_with fail
  go_ret2
  exact ⟨⟨_, rfl⟩, B1.out.alloc B1.out.size _⟩

theorem dec_3 (ao : Option Addr) (L C : Nat) (w : World) {g o1 n C1 o2 R C2 : Nat} (hn : 0 < n) (hv1 : Calls Tryf.prog 11 #[.slice ao L C] w fun e w' => VOk e g o1 n C1 o2 R C2 ∧ Below w.heap.size w w')
    (hv2 : ∀ w1, Below w.heap.size w w1 → Calls Tryf.prog 11 #[.slice (some ⟨g, o2, none⟩) R C2] w1 fun e w' => VBad e ∧ Below w1.heap.size w1 w') :
    Calls Tryf.prog 8 #[.slice ao L C] w fun e w' => DErr e ∧ Below w.heap.size w w' := by
  have h0 : ((n : Int) == 0) = false := by simp; omega
  go_enter Tryf.func8, Tryf.ntmps8
  go_wp2_with fail
  refine hv1.mono ?_
  rintro e w1 ⟨rfl, b1⟩
  have hv2' := hv2 w1 b1
  have B1 : Hid (Below w.heap.size w w1) := b1
  clear b1 hv1 hv2
  go_wp2_with fail
  refine hv2'.mono ?_
  rintro e w2 ⟨rfl, b2⟩
  have B2 : Hid (Below w.heap.size w w2) := B1.out.trans (b2.mono B1.out.size)
  clear b2 hv2'
  go_wp2_with fail
  refine (new_any _ _).mono ?_
  rintro e w2 ⟨rfl, rfl⟩
  go_wp2_with fail
  go_ret2
  exact ⟨⟨_, rfl⟩, B2.out.alloc B2.out.size _⟩

set_option maxHeartbeats 800000 in
theorem dec_4 (F : Interp) (ao : Option Addr) (L C : Nat) (w : World) (hF : F.answers w.tape) {g o1 n C1 o2 R C2 o3 m C3 o4 T C4 : Nat} (hn : 0 < n) (hT : 0 < T) (hv1 : Calls Tryf.prog 11 #[.slice ao L C] w fun e w' => VOk e g o1 n C1 o2 R C2 ∧ Below w.heap.size w w')
    (hv2 : ∀ w1, Below w.heap.size w w1 → Calls Tryf.prog 11 #[.slice (some ⟨g, o2, none⟩) R C2] w1 fun e w' => VOk e g o3 m C3 o4 T C4 ∧ Below w1.heap.size w1 w') :
    Calls Tryf.prog 8 #[.slice ao L C] w fun e w' => DErr e ∧ Below w.heap.size w w' := by
  have h0 : ((n : Int) == 0) = false := by simp; omega
  have h1 : ((T : Int) != 0) = true := by simp; omega
  have hbs : ∀ w : World, (Instr.buildSlice 46 1 #[(0, .iface 3 (.int .i64 (T : Int)))]).run Tryf.prog w = .ok (.slice (some ⟨w.heap.size, 0, none⟩) 1 1) (w.alloc (.cells #[.iface 3 (.int .i64 (T : Int))] 20)) := fun w => by kernel_rfl
  go_enter Tryf.func8, Tryf.ntmps8
  go_wp2_with fail
  refine hv1.mono ?_
  rintro e w1 ⟨rfl, b1⟩
  have hv2' := hv2 w1 b1
  have B1 : Hid (Below w.heap.size w w1) := b1
  clear b1 hv1 hv2
  go_wp2_with fail
  refine hv2'.mono ?_
  rintro e w2 ⟨rfl, b2⟩
  have B2 : Hid (Below w.heap.size w w2) := B1.out.trans (b2.mono B1.out.size)
  clear b2 hv2'
  go_wp2_with fail
  have B3 : Hid (Below w.heap.size w (w2.alloc (.cells #[.iface 3 (.int .i64 (T : Int))] 20))) := B2.out.alloc B2.out.size _
  have he := errorf_any F (T : Int) w2.heap.size (w2.alloc (.cells #[.iface 3 (.int .i64 (T : Int))] 20)) (by rw [B3.out.tape]; exact hF) (by simp)
  generalize w2.alloc (.cells #[.iface 3 (.int .i64 (T : Int))] 20) = w3 at B3 he ⊢
  refine he.mono ?_
  rintro e w4 ⟨⟨a, rfl⟩, b4⟩
  have B4 : Hid (Below w.heap.size w w4) := B3.out.trans (b4.mono B3.out.size)
  clear b4 he hbs
  go_wp2_with fail
  go_ret2
  exact ⟨⟨_, rfl⟩, B4.out⟩

set_option maxHeartbeats 800000 in
theorem dec_5 (ao : Option Addr) (L C : Nat) (w : World) {g o1 n C1 o2 R C2 o3 m C3 o4 C4 : Nat} (p : Nat → UInt8) (hn : 0 < n) (hm : m ≤ 65536) (hv1 : Calls Tryf.prog 11 #[.slice ao L C] w fun e w' => VOk e g o1 n C1 o2 R C2 ∧ Below w.heap.size w w')
    (hv2 : ∀ w1, Below w.heap.size w w1 → Calls Tryf.prog 11 #[.slice (some ⟨g, o2, none⟩) R C2] w1 fun e w' => VOk e g o3 m C3 o4 0 C4 ∧ Below w1.heap.size w1 w')
    (hg : g < w.heap.size) (hc : ∀ j, j < m → w.cell? ⟨g, o3 + j, none⟩ = some (.int .u8 ((p j).toNat : Int))) :
    Calls Tryf.prog 8 #[.slice ao L C] w fun e w' => (((∀ j, j < m → p j = 0) ∧ DMsg e g o1 n C1) ∨ ((∃ j, j < m ∧ p j ≠ 0) ∧ DErr e)) ∧ Below w.heap.size w w' := by
  have h0 : ((n : Int) == 0) = false := by simp; omega
  go_enter Tryf.func8, Tryf.ntmps8
  go_wp2_with fail
  refine hv1.mono ?_
  rintro e w1 ⟨rfl, b1⟩
  have hv2' := hv2 w1 b1
  have B1 : Hid (Below w.heap.size w w1) := b1
  clear b1 hv1 hv2
  go_wp2_with fail
  refine hv2'.mono ?_
  rintro e w2 ⟨rfl, b2⟩
  have B2 : Hid (Below w.heap.size w w2) := B1.out.trans (b2.mono B1.out.size)
  clear b2 hv2' B1
  have HC : Hid (∀ j, j < m → w2.cell? ⟨g, o3 + j, none⟩ = some (.int .u8 ((p j).toNat : Int))) := fun j hj => (B2.out.cell (by exact hg)).trans (hc j hj)
  clear hc
  go_wp2_with fail
  go_loop [42] (fun i => ∃ k : Nat, k ≤ m ∧ i = .int .i64 k ∧ Hid (∀ j, j < k → p j = 0)) (fun i => m - (intOf i).toNat)
  case atStart => exact ⟨0, Nat.zero_le _, rfl, fun j h => absurd h (by omega)⟩
  case round =>
    obtain ⟨k, hk, rfl, HA⟩ := hrel
    by_cases hlt : k < m
    · have b1 : (k : Int) < (m : Int) := by omega
      have hck := HC.out k hlt
      by_cases hz : p k = 0
      · have HK : Hid (p k = 0) := hz
        rw [hz] at hck
        have hck' : w2.cell? ⟨g, o3 + k, none⟩ = some (.int .u8 0) := hck
        clear hck hz
        go_wp2_with fail
        go_round
        case rel =>
          refine ⟨k + 1, by omega, by go_num, fun j hj => ?_⟩
          by_cases e : j = k
          · subst e; exact HK.out
          · exact HA.out j (by omega)
        case measure => simp [intOf]; omega
      · have hne : (((p k).toNat : Int) != 0) = true := by
          have : (p k).toNat ≠ 0 := fun h => hz (UInt8.toNat_inj.1 (by simpa using h))
          simp; omega
        have HK : Hid (p k ≠ 0) := hz
        clear hz
        go_wp2_with fail
        refine (new_any _ _).mono ?_
        rintro e w3 ⟨rfl, rfl⟩
        go_wp2_with fail
        go_ret2
        exact ⟨Or.inr ⟨⟨k, hlt, HK.out⟩, ⟨_, rfl⟩⟩, B2.out.alloc B2.out.size _⟩
    · go_wp2_with fail
      go_ret2
      exact ⟨Or.inl ⟨fun j hj => HA.out j (by omega), rfl⟩, B2.out⟩
end Go.Proofs.Qxb6628317aFmt
