/-
  SEAT b6628317aF: FnDecodePlaintextMatchesCanonicalForm, walked FOR EVERY F.
-/
import Derived.Test.Qxb6628317aFmtCanon
import Derived.Test.Qxb6628317aFmtLawP
import Derived.LaidEqlPtr
namespace Go.Proofs.Qxb6628317aFmt
open Go.RowKit Go.Lib Go.Extern.Stop Go.Stop Go.Extern
set_option linter.unusedVariables false

theorem eql32 (a : Addr) (w : World) : (binOp .eql 32 (.pointer (some a)) (.pointer (some a))).run Tryf.prog w = .ok (.bool true) w := by
  obtain ⟨j, hj, _⟩ := Option.map_eq_some_iff.1 info5
  exact run_eql_ptr_same w a Tryf.underlying32 hj

set_option maxHeartbeats 1600000 in
set_option maxRecDepth 100000 in
/-- behind the clone: a text that is too short -/
theorem lawM_bare (ao : Option Addr) (C : Nat) (w : World) : Calls Tryf.prog 3 #[.slice ao 0 C] w fun e w' => e = .returned (.bool true) ∧ Below w.heap.size w w' := by
  have q22 := eql22
  go_enter Tryf.func3, Tryf.ntmps3
  go_wp2_with fail
  refine (bytes5 _ _ _ _ (Nat.zero_le _)).mono ?_
  rintro e w0 ⟨r, rfl, rfl⟩
  cases r
  · go_wp2_with fail
    go_ret
    exact ⟨rfl, Below.refl _ _⟩
  cases ao with
  | none =>
    go_wp2_with fail
    refine (clone_nil _ _ _).mono ?_
    rintro e w1 ⟨rfl, rfl⟩
    go_wp2_with fail
    refine (canon_short _ _ _ _ (by omega)).mono ?_
    rintro e w2 ⟨rfl, rfl⟩
    go_wp2_with fail
    refine (dec_nil _ _ _ _ (by omega)).mono ?_
    rintro e w3 ⟨⟨a, rfl⟩, x3⟩
    have b3 : Hid (Below _ _ w3) := x3
    clear x3
    go_wp2_with fail
    go_ret
    exact ⟨rfl, b3.out⟩
  | some a =>
    go_wp2_with fail
    refine (clone_empty a _ _).mono ?_
    rintro e w1 ⟨rfl, x1⟩
    have b1 : Hid (Below _ _ w1) := x1
    clear x1
    go_wp2_with fail
    refine (canon_short _ _ _ _ (by omega)).mono ?_
    rintro e w2 ⟨rfl, rfl⟩
    go_wp2_with fail
    refine (dec_nil _ _ _ _ (by omega)).mono ?_
    rintro e w3 ⟨⟨a, rfl⟩, x3⟩
    have b3 : Hid (Below _ _ w3) := b1.out.trans (x3.mono b1.out.size)
    clear x3
    go_wp2_with fail
    go_ret
    exact ⟨rfl, b3.out⟩

set_option maxHeartbeats 1600000 in
set_option maxRecDepth 100000 in
theorem lawM (F : Interp) (f : Nat → UInt8) (b o L C : Nat) (w : World) (hF : F.answers w.tape) (hm : L ≤ maxLen) (hc : ∀ j, j < L → w.cell? ⟨b, o + j, none⟩ = some (.int .u8 ((f j).toNat : Int))) :
    Calls Tryf.prog 3 #[.slice (some ⟨b, o, none⟩) L C] w fun e w' => e = .returned (.bool true) ∧ Below w.heap.size w w' := by
  have q22 := eql22
  have hm' := hm
  unfold maxLen at hm
  go_enter Tryf.func3, Tryf.ntmps3
  go_wp2_with fail
  refine (bytes5 _ _ _ _ hm').mono ?_
  rintro e w0 ⟨r, rfl, rfl⟩
  cases r
  · go_wp2_with fail
    go_ret
    exact ⟨rfl, Below.refl _ _⟩
  by_cases hbig : 1048576 < L
  · go_wp2_with fail
    go_ret
    exact ⟨rfl, Below.refl _ _⟩
  have hcl := clone_some f b o L C w0 (by omega) hc
  go_wp2_with fail
  refine hcl.mono ?_
  rintro e w1 ⟨rfl, hrow, hbel, hsz⟩
  have HR : Hid (w1.rowIs w0.heap.size 5 L (cellF f)) := hrow
  have HB : Hid (Below w0.heap.size w0 w1) := hbel
  have HZ : Hid (w1.heap.size = w0.heap.size + 1) := hsz
  clear hcl hrow hbel hsz
  have CA : Hid (∀ w6, Below w1.heap.size w1 w6 → ∀ j, j < L → w6.cell? ⟨w0.heap.size, j, none⟩ = some (.int .u8 ((f j).toNat : Int))) := fun w6 b6 j hj => (b6.cell (by show w0.heap.size < w1.heap.size; have := HZ.out; omega)).trans (HR.out.cell hj)
  have HF1 : Hid (∀ w6, Below w1.heap.size w1 w6 → F.answers w6.tape) := fun w6 b6 => by rw [b6.tape, HB.out.tape]; exact hF
  clear HR HZ
  by_cases h2 : L < 2
  · go_wp2_with fail
    refine (canon_short _ _ _ _ h2).mono ?_
    rintro e w2 ⟨rfl, rfl⟩
    go_wp2_with fail
    refine (dec_nil _ _ _ _ h2).mono ?_
    rintro e w3 ⟨⟨a, rfl⟩, x3⟩
    have b3 : Hid (Below _ _ w3) := HB.out.trans (x3.mono HB.out.size)
    clear x3
    go_wp2_with fail
    go_ret
    exact ⟨rfl, b3.out⟩
  go_wp2_with fail
  refine (canon_any f _ L _ (by omega) (by omega) (CA.out _ (Below.refl _ _))).mono ?_
  rintro e w2 ⟨he, x2⟩
  have b2 : Hid (Below w1.heap.size w1 w2) := x2
  clear x2
  rcases he with ⟨hG, h, C', rfl, hcw⟩ | ⟨hG, rfl⟩
  · have HG : Hid (Good L f) := hG
    have HN : Hid (1 ≤ nOf f) := hG.1
    have HNL : Hid (4 + nOf f ≤ L) := by have := hG.2.1; show 4 + nOf f ≤ L; omega
    have HCW : Hid (∀ j, j < nOf f → w2.cell? ⟨h, 2 + j, none⟩ = some (.int .u8 ((f (2 + j)).toNat : Int))) := hcw
    clear hG hcw
    have hnl : nOf f < 65536 := be2_lt _ _
    have hd := decG F f w0.heap.size L (nOf f) w2 (HF1.out _ b2.out) hm' (CA.out _ b2.out) rfl HG.out
    generalize nOf f = n at HN HNL HCW hnl hd ⊢
    go_wp2_with fail
    refine hd.mono ?_
    rintro e w3 ⟨rfl, x3⟩
    have X3 : Hid (Below w2.heap.size w2 w3) := x3
    have b3 : Hid (Below w1.heap.size w1 w3) := b2.out.trans (x3.mono b2.out.size)
    clear x3 hd
    have hsm := same_yes f f w0.heap.size h (L - 2) C' n w3 (by omega) (fun j hj => CA.out _ b3.out _ (by have := HNL.out; omega)) (fun j hj => (X3.out.cell (World.block_lt_of_cell? _ _ (HCW.out j hj))).trans (HCW.out j hj)) (fun j hj => rfl)
    go_wp2_with fail
    refine hsm.mono ?_
    rintro e w4 ⟨rfl, x4⟩
    have b4 : Hid (Below w0.heap.size w0 w4) := HB.out.trans ((b3.out.trans (x4.mono b3.out.size)).mono HB.out.size)
    clear x4 hsm
    have l0 : 0 < n := HN.out
    have q32 := eql32
    have l2 : (2 : Int) < (L : Int) := by have := HNL.out; omega
    go_wp2_with fail
    go_big_region
    go_wp2_with fail
    go_ret
    exact ⟨rfl, b4.out.drew⟩
  · refine ?_
    have hd := decB F f w0.heap.size L w2 (HF1.out _ b2.out) hm' (CA.out _ b2.out) hG
    clear hG
    go_wp2_with fail
    refine hd.mono ?_
    rintro e w3 ⟨⟨a, rfl⟩, x3⟩
    have b3 : Hid (Below w0.heap.size w0 w3) := HB.out.trans ((b2.out.trans (x3.mono b2.out.size)).mono HB.out.size)
    clear x3 hd
    go_wp2_with fail
    go_ret
    exact ⟨rfl, b3.out⟩
end Go.Proofs.Qxb6628317aFmt
