/-
  SEAT b6628317aF: what DecodePlaintext accepts.
-/
import Derived.Test.Qxb6628317aFmtDec
namespace Go.Proofs.Qxb6628317aFmt
open Go.RowKit Go.Lib Go.Extern.Stop Go.Stop Go.Extern
set_option linter.unusedVariables false

/-- the two length fields of the bytes f 0, f 1, .. -/
def nOf (f : Nat → UInt8) : Nat := be2 (f 0) (f 1)
def mOf (f : Nat → UInt8) : Nat := be2 (f (2 + nOf f)) (f (3 + nOf f))
/-- the L bytes of f are a message that is not empty, and a padding of zeros, and nothing else -/
def Good (L : Nat) (f : Nat → UInt8) : Prop := 1 ≤ nOf f ∧ L = 4 + nOf f + mOf f ∧ ∀ j, 4 + nOf f ≤ j → j < L → f j = 0

theorem dec_nil (ao : Option Addr) (L C : Nat) (w : World) (hL : L < 2) : Calls Tryf.prog 8 #[.slice ao L C] w fun e w' => DErr e ∧ Below w.heap.size w w' :=
  dec_1 ao L C w ((vec_short ao L C w hL).mono fun e w' ⟨he, hw⟩ => ⟨he, hw ▸ Below.refl _ _⟩)

theorem dec_any (F : Interp) (f : Nat → UInt8) (g o L C : Nat) (w : World) (hF : F.answers w.tape) (hm : C ≤ maxLen) (hC : L ≤ C) (hc : ∀ j, j < L → w.cell? ⟨g, o + j, none⟩ = some (.int .u8 ((f j).toNat : Int))) :
    Calls Tryf.prog 8 #[.slice (some ⟨g, o, none⟩) L C] w fun e w' => ((Good L f ∧ DMsg e g (o + 2) (nOf f) (C - 2)) ∨ (¬ Good L f ∧ DErr e)) ∧ Below w.heap.size w w' := by
  by_cases h2 : L < 2
  · exact (dec_nil _ L C w h2).mono fun e w' ⟨he, hb⟩ => ⟨Or.inr ⟨fun hg => by have := hg.2.1; omega, he⟩, hb⟩
  · have c0 := hc 0 (by omega)
    have c1 := hc 1 (by omega)
    have hg : g < w.heap.size := World.block_lt_of_cell? _ _ c0
    by_cases hn : 2 + nOf f ≤ L
    · have hv1 : Calls Tryf.prog 11 #[.slice (some ⟨g, o, none⟩) L C] w fun e w' => VOk e g (offAt o 2 C) (nOf f) (C - 2) (offAt o (2 + nOf f) C) (L - (2 + nOf f)) (C - (2 + nOf f)) ∧ Below w.heap.size w w' := vec_ok (f 0) (f 1) g o L C w hn hm hC c0 c1
      by_cases h0 : nOf f = 0
      · rw [h0] at hv1
        exact (dec_2 _ L C w hv1).mono fun e w' ⟨he, hb⟩ => ⟨Or.inr ⟨fun hg => by have := hg.1; omega, he⟩, hb⟩
      · by_cases hr : L - (2 + nOf f) < 2
        · exact (dec_3 _ L C w (by omega) hv1 (fun w1 _ => (vec_short _ _ _ w1 hr).mono fun e w' ⟨he, hw⟩ => ⟨he, hw ▸ Below.refl _ _⟩)).mono fun e w' ⟨he, hb⟩ => ⟨Or.inr ⟨fun hg => by have := hg.2.1; omega, he⟩, hb⟩
        · rw [offAt_lt (show 2 + nOf f < C by omega), offAt_lt (show 2 < C by omega)] at hv1
          have d0 : ∀ w1, Below w.heap.size w w1 → w1.cell? ⟨g, o + (2 + nOf f), none⟩ = some (.int .u8 ((f (2 + nOf f)).toNat : Int)) := fun w1 hb => (hb.cell (by exact hg)).trans (hc _ (by omega))
          have d1 : ∀ w1, Below w.heap.size w w1 → w1.cell? ⟨g, o + (2 + nOf f) + 1, none⟩ = some (.int .u8 ((f (3 + nOf f)).toNat : Int)) := fun w1 hb => (hb.cell (by exact hg)).trans (by
            have := hc (3 + nOf f) (by omega)
            rw [show o + (2 + nOf f) + 1 = o + (3 + nOf f) by omega]
            exact this)
          by_cases hm2 : 2 + mOf f ≤ L - (2 + nOf f)
          · have hv2 : ∀ w1, Below w.heap.size w w1 → Calls Tryf.prog 11 #[.slice (some ⟨g, o + (2 + nOf f), none⟩) (L - (2 + nOf f)) (C - (2 + nOf f))] w1 fun e w' => VOk e g (offAt (o + (2 + nOf f)) 2 (C - (2 + nOf f))) (mOf f) (C - (2 + nOf f) - 2) (offAt (o + (2 + nOf f)) (2 + mOf f) (C - (2 + nOf f))) (L - (2 + nOf f) - (2 + mOf f)) (C - (2 + nOf f) - (2 + mOf f)) ∧ Below w1.heap.size w1 w' :=
              fun w1 hb => vec_ok (f (2 + nOf f)) (f (3 + nOf f)) g (o + (2 + nOf f)) _ _ w1 hm2 (by omega) (by omega) (d0 w1 hb) (d1 w1 hb)
            by_cases hT : L - (2 + nOf f) - (2 + mOf f) = 0
            · rw [hT] at hv2
              have hlt := be2_lt (f (2 + nOf f)) (f (3 + nOf f))
              refine (dec_5 _ L C w (fun j => f (4 + nOf f + j)) (by omega) (by unfold mOf; omega) hv1 hv2 hg (fun j hj => ?_)).mono fun e w' ⟨he, hb⟩ => ⟨?_, hb⟩
              · have := hc (4 + nOf f + j) (by omega)
                by_cases h4 : 2 < C - (2 + nOf f)
                · rw [offAt_lt h4, show o + (2 + nOf f) + 2 + j = o + (4 + nOf f + j) by omega]
                  exact this
                · exact absurd hj (by omega)
              · rcases he with ⟨hz, he⟩ | ⟨⟨j, hj, hz⟩, he⟩
                · exact Or.inl ⟨⟨by omega, by omega, fun j h1 h2 => by
                    have := hz (j - (4 + nOf f)) (by omega)
                    rw [show 4 + nOf f + (j - (4 + nOf f)) = j by omega] at this
                    exact this⟩, he⟩
                · exact Or.inr ⟨fun hgd => hz (hgd.2.2 _ (by omega) (by omega)), he⟩
            · exact (dec_4 F _ L C w hF (by omega) (by omega) hv1 hv2).mono fun e w' ⟨he, hb⟩ => ⟨Or.inr ⟨fun hgd => by have := hgd.2.1; omega, he⟩, hb⟩
          · have hv2 : ∀ w1, Below w.heap.size w w1 → Calls Tryf.prog 11 #[.slice (some ⟨g, o + (2 + nOf f), none⟩) (L - (2 + nOf f)) (C - (2 + nOf f))] w1 fun e w' => VBad e ∧ Below w1.heap.size w1 w' :=
              fun w1 hb => vec_over (f (2 + nOf f)) (f (3 + nOf f)) g (o + (2 + nOf f)) _ _ w1 (by omega) (by omega) (by omega) (by unfold mOf at hm2; omega) (d0 w1 hb) (d1 w1 hb)
            exact (dec_3 _ L C w (by omega) hv1 hv2).mono fun e w' ⟨he, hb⟩ => ⟨Or.inr ⟨fun hgd => by have := hgd.2.1; omega, he⟩, hb⟩
    · exact (dec_1 _ L C w (vec_over (f 0) (f 1) g o L C w (by omega) hm hC (by unfold nOf at hn; omega) c0 c1)).mono fun e w' ⟨he, hb⟩ => ⟨Or.inr ⟨fun hgd => by have := hgd.2.1; omega, he⟩, hb⟩
end Go.Proofs.Qxb6628317aFmt
