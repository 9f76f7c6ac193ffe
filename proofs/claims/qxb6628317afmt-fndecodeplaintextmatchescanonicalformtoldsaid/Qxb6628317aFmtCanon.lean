/-
  SEAT b6628317aF: zzCanonicalMessage, walked.
-/
import Derived.Test.Qxb6628317aFmtRow
import Derived.Deep.Cut
namespace Go.Proofs.Qxb6628317aFmt
open Go.RowKit Go.Lib
set_option linter.unusedVariables false

/-- no message -/
def CBad (e : Ending) : Prop := e = .returned (.tuple #[.slice none 0 0, .bool false])

set_option maxRecDepth 100000 in
theorem canon_short (ao : Option Addr) (L C : Nat) (w : World) (hL : L < 2) : Calls Tryf.prog 7 #[.slice ao L C] w fun e w' => CBad e ∧ w' = w := by
  have h : (L : Int) < 2 := by omega
  go_enter Tryf.func7, Tryf.ntmps7
  go_wp2_with fail
  go_ret2
  exact ⟨rfl, rfl⟩

theorem be2_hi (x y : UInt8) : ((be2 x y : Nat) : Int) / 256 = (x.toNat : Int) := by
  have := x.toNat_lt; have := y.toNat_lt
  unfold be2; omega
theorem be2_lo (x y : UInt8) : ((be2 x y : Nat) : Int) % 256 = (y.toNat : Int) := by
  have := x.toNat_lt; have := y.toNat_lt
  unfold be2; omega

/-- the text that is rebuilt -/
def encF (f : Nat → UInt8) (n i : Nat) : UInt8 := if i < 4 + n then f i else 0
theorem enc_cell (f : Nat → UInt8) (n i : Nat) : cellTo f (4 + n) i = cellF (encF f n) i := by
  unfold cellTo
  by_cases e : i < 4 + n
  · have : encF f n i = f i := by unfold encF; rw [if_pos e]
    rw [if_pos e]; unfold cellF; rw [this]
  · have : encF f n i = 0 := by unfold encF; rw [if_neg e]
    rw [if_neg e]; unfold cellF; rw [this]; rfl
theorem enc_good {f : Nat → UInt8} {L n m : Nat} (hn : nOf f = n) (hm : mOf f = m) (h0 : n ≠ 0) (hL : L = 4 + n + m) : Good L f ↔ ∀ j, j < L → encF f n j = f j := by
  unfold Good
  rw [hn, hm]
  constructor
  · rintro ⟨_, _, h⟩ j hj
    unfold encF
    by_cases e : j < 4 + n
    · rw [if_pos e]
    · rw [if_neg e]; exact (h j (by omega) hj).symm
  · intro h
    refine ⟨by omega, hL, fun j h1 h2 => ?_⟩
    have := h j h2
    unfold encF at this
    rw [if_neg (by omega)] at this
    exact this.symm

set_option maxHeartbeats 1600000 in
set_option maxRecDepth 100000 in
theorem canon_any (f : Nat → UInt8) (g L : Nat) (w : World) (hl : L ≤ 1048576) (h2 : 2 ≤ L) (hc : ∀ j, j < L → w.cell? ⟨g, j, none⟩ = some (.int .u8 ((f j).toNat : Int))) :
    Calls Tryf.prog 7 #[.slice (some ⟨g, 0, none⟩) L L] w fun e w' => ((Good L f ∧ ∃ h C, e = .returned (.tuple #[.slice (some ⟨h, 2, none⟩) (nOf f) C, .bool true]) ∧ ∀ j, j < nOf f → w'.cell? ⟨h, 2 + j, none⟩ = some (.int .u8 ((f (2 + j)).toNat : Int))) ∨ (¬ Good L f ∧ CBad e)) ∧ Below w.heap.size w w' := by
  have hg : g < w.heap.size := World.block_lt_of_cell? _ _ (hc 0 (by omega))
  have h2' : ¬ (L : Int) < 2 := by omega
  have l0 : 0 < L := by omega
  have l1 : (1 : Int) < (L : Int) := by omega
  have c0 : w.cell? ⟨g, 0, none⟩ = some (.int .u8 ((f 0).toNat : Int)) := hc 0 (by omega)
  have c1 : w.cell? ⟨g, 1, none⟩ = some (.int .u8 ((f 1).toNat : Int)) := hc 1 (by omega)
  have ho : bits .or .i64 (((f 0).toNat : Int) * 256) ((f 1).toNat : Int) = (nOf f : Int) := or64 _ _
  have hx := u8_le (f 0)
  have hy := u8_le (f 1)
  have hnl : nOf f < 65536 := be2_lt _ _
  have Hhi : Hid ((nOf f : Int) / 256 = ((f 0).toNat : Int)) := be2_hi _ _
  have Hlo : Hid ((nOf f : Int) % 256 = ((f 1).toNat : Int)) := be2_lo _ _
  have HM0 : Hid (mOf f = be2 (f (2 + nOf f)) (f (3 + nOf f))) := rfl
  generalize hn : nOf f = n at ho hnl Hhi Hlo HM0 ⊢
  have HN : Hid (nOf f = n) := hn
  clear hn
  have HC : Hid (∀ j, j < L → w.cell? ⟨g, j, none⟩ = some (.int .u8 ((f j).toNat : Int))) := hc
  clear hc
  go_enter Tryf.func7, Tryf.ntmps7
  go_wp2_with fail
  go_big_region
  have B1 : Hid (Below w.heap.size w w.drew) := (Below.refl _ _).drew
  have Z1 : Hid (w.heap.size ≤ w.drew.heap.size) := B1.out.size
  generalize w.drew = w1 at B1 Z1 ⊢
  clear c0 c1 ho hx hy
  by_cases hn0 : n = 0
  · have e0 : ((n : Int) == 0) = true := by simp; omega
    have HB : Hid (¬ Good L f) := fun h => by have := h.1; rw [HN.out] at this; omega
    clear hn0
    go_wp2_with fail
    go_ret2
    exact ⟨Or.inr ⟨HB.out, rfl⟩, B1.out⟩
  have e0 : ((n : Int) == 0) = false := by simp; omega
  by_cases h4 : L < 4 + n
  · have h4' : (L : Int) < 4 + (n : Int) := by omega
    have HB : Hid (¬ Good L f) := fun h => by have := h.2.1; rw [HN.out] at this; omega
    go_wp2_with fail
    go_ret2
    exact ⟨Or.inr ⟨HB.out, rfl⟩, B1.out⟩
  have h4' : ¬ (L : Int) < 4 + (n : Int) := by omega
  have k2 : (2 : Int) + (n : Int) < (L : Int) := by omega
  have k3 : (3 : Int) + (n : Int) < (L : Int) := by omega
  have c0 : w1.cell? ⟨g, 2 + n, none⟩ = some (.int .u8 ((f (2 + n)).toNat : Int)) := (B1.out.cell (by exact hg)).trans (HC.out _ (by omega))
  have c1 : w1.cell? ⟨g, 3 + n, none⟩ = some (.int .u8 ((f (3 + n)).toNat : Int)) := (B1.out.cell (by exact hg)).trans (HC.out _ (by omega))
  have ho : bits .or .i64 (((f (2 + n)).toNat : Int) * 256) ((f (3 + n)).toNat : Int) = (be2 (f (2 + n)) (f (3 + n)) : Int) := or64 _ _
  have hx := u8_le (f (2 + n))
  have hy := u8_le (f (3 + n))
  have hml := be2_lt (f (2 + n)) (f (3 + n))
  have Hmhi : Hid ((be2 (f (2 + n)) (f (3 + n)) : Int) / 256 = ((f (2 + n)).toNat : Int)) := be2_hi _ _
  have Hmlo : Hid ((be2 (f (2 + n)) (f (3 + n)) : Int) % 256 = ((f (3 + n)).toNat : Int)) := be2_lo _ _
  generalize hmm : be2 (f (2 + n)) (f (3 + n)) = m at ho hml Hmhi Hmlo HM0
  clear hmm
  go_wp2_with fail
  go_big_region
  have B2 : Hid (Below w.heap.size w w1.drew) := B1.out.drew
  generalize w1.drew = w2 at B2 ⊢
  clear B1 Z1 c0 c1 ho hx hy
  by_cases hLe : L = 4 + n + m
  · have hq : ((L : Int) != 4 + (n : Int) + (m : Int)) = false := by simp; omega
    have HLe : Hid (L = 4 + n + m) := hLe
    have hmk : ∀ w : World, (Instr.makeSlice 22 (.int .i64 (4 + (n : Int) + (m : Int))) (.int .i64 (4 + (n : Int) + (m : Int)))).run Tryf.prog w = .ok (.slice (some ⟨w.heap.size, 0, none⟩) L L) (w.alloc (.cells (madeCells #[.int .u8 0] L) 5)) := fun w => by
      have := run_make_row' (P := Tryf.prog) 22 5 (.int .u8 0) 1 Tryf.underlying22 info5 rfl .i64 .i64 L (by omega) (by omega) w
      have e : (L : Int) = 4 + (n : Int) + (m : Int) := by omega
      rw [e] at this
      exact this
    have hgood := enc_good HN.out HM0.out hn0 hLe
    have HGd : Hid (Good L f ↔ ∀ j, j < L → encF f n j = f j) := hgood
    clear hLe hgood
    have R3 : Hid ((w2.alloc (.cells (madeCells #[.int .u8 0] L) 5)).rowIs w2.heap.size 5 L (cellTo f 0)) := (World.rowIs_made w2 (.int .u8 0) L 5).congr (fun i _ => by simp [cellTo])
    have B3 : Hid (Below w2.heap.size w2 (w2.alloc (.cells (madeCells #[.int .u8 0] L) 5))) := (Below.refl _ _).alloc (Nat.le_refl _) _
    go_upto_region 10 with fail
    generalize w2.alloc (.cells (madeCells #[.int .u8 0] L) 5) = w3 at R3 B3 ⊢
    clear hmk
    have R4 : (w3.setCell ⟨w2.heap.size, 0, none⟩ (.int .u8 ((n : Int) / 256))).rowIs w2.heap.size 5 L (cellTo f 1) := (R3.out.set 0 _).congr (fun i _ => by rw [Hhi.out]; exact cellTo_step f 0 i)
    have R5 : ((w3.setCell ⟨w2.heap.size, 0, none⟩ (.int .u8 ((n : Int) / 256))).setCell ⟨w2.heap.size, 1, none⟩ (.int .u8 ((n : Int) % 256))).rowIs w2.heap.size 5 L (cellTo f 2) := (R4.set 1 _).congr (fun i _ => by rw [Hlo.out]; exact cellTo_step f 1 i)
    obtain ⟨x1, hx1⟩ := cellTo_int f 0 0
    obtain ⟨x2, hx2⟩ := cellTo_int f 1 1
    have q1 : w3.cell? ⟨w2.heap.size, 0, none⟩ = some (.int .u8 x1) := by rw [R3.out.cell (by omega), hx1]
    have q2 : (w3.setCell ⟨w2.heap.size, 0, none⟩ (.int .u8 ((n : Int) / 256))).cell? ⟨w2.heap.size, 1, none⟩ = some (.int .u8 x2) := by rw [R4.cell (by omega), hx2]
    have f1 : w3.frozen? ⟨w2.heap.size, 0, none⟩ = false := R3.out.frozen _
    have f2 : (w3.setCell ⟨w2.heap.size, 0, none⟩ (.int .u8 ((n : Int) / 256))).frozen? ⟨w2.heap.size, 1, none⟩ = false := R4.frozen _
    have HR5 : Hid (((w3.setCell ⟨w2.heap.size, 0, none⟩ (.int .u8 ((n : Int) / 256))).setCell ⟨w2.heap.size, 1, none⟩ (.int .u8 ((n : Int) % 256))).rowIs w2.heap.size 5 L (cellTo f 2)) := R5
    have B5 : Hid (Below w2.heap.size w2 ((w3.setCell ⟨w2.heap.size, 0, none⟩ (.int .u8 ((n : Int) / 256))).setCell ⟨w2.heap.size, 1, none⟩ (.int .u8 ((n : Int) % 256)))) := (B3.out.setCell (Nat.le_refl _) _).setCell (Nat.le_refl _) _
    clear R4 R5 hx1 hx2 R3 B3
    go_wp2_with fail
    clear q1 q2 f1 f2 x1 x2
    generalize (w3.setCell ⟨w2.heap.size, 0, none⟩ (.int .u8 ((n : Int) / 256))).setCell ⟨w2.heap.size, 1, none⟩ (.int .u8 ((n : Int) % 256)) = w5 at HR5 B5 ⊢
    go_loopw [7] (fun i wr => ∃ k : Nat, k ≤ n ∧ i = .int .i64 k ∧ Hid (wr.rowIs w2.heap.size 5 L (cellTo f (2 + k))) ∧ Hid (Below w2.heap.size w2 wr)) (fun i _ => n - (intOf i).toNat)
    case atStart => exact ⟨0, Nat.zero_le _, rfl, HR5, B5⟩
    case round =>
      obtain ⟨k, hk, rfl, hrow, hbel⟩ := hrel
      have hg2 : Hid (g < w2.heap.size) := Nat.lt_of_lt_of_le hg B2.out.size
      by_cases hlt : k < n
      · have h1 : wr.cell? ⟨g, 2 + k, none⟩ = some (.int .u8 ((f (2 + k)).toNat : Int)) := (hbel.out.cell (by exact hg2.out)).trans ((B2.out.cell (by exact hg)).trans (HC.out _ (by omega)))
        obtain ⟨x, hx⟩ := cellTo_int f (2 + k) (2 + k)
        have h3 : wr.cell? ⟨w2.heap.size, 2 + k, none⟩ = some (.int .u8 x) := by rw [hrow.out.cell (by omega), hx]
        have h5 : wr.frozen? ⟨w2.heap.size, 2 + k, none⟩ = false := hrow.out.frozen _
        have b1 : (k : Int) < (n : Int) := by omega
        have b2 : (2 : Int) + (k : Int) < (L : Int) := by omega
        clear hx
        go_wp2_with fail
        go_roundw
        case rel =>
          refine ⟨k + 1, by omega, by go_num, (hrow.out.set (2 + k) _).congr (fun i hi => cellTo_step f (2 + k) i), hbel.out.setCell (Nat.le_refl _) _⟩
        case measure => simp [intOf]; omega
      · obtain rfl : n = k := by omega
        have R0 := hrow.out
        have R4 : (wr.setCell ⟨w2.heap.size, 2 + n, none⟩ (.int .u8 ((m : Int) / 256))).rowIs w2.heap.size 5 L (cellTo f (3 + n)) := (R0.set (2 + n) _).congr (fun i _ => by rw [Hmhi.out]; exact (cellTo_step f (2 + n) i).trans (by rw [show 2 + n + 1 = 3 + n by omega]))
        have R5 : ((wr.setCell ⟨w2.heap.size, 2 + n, none⟩ (.int .u8 ((m : Int) / 256))).setCell ⟨w2.heap.size, 3 + n, none⟩ (.int .u8 ((m : Int) % 256))).rowIs w2.heap.size 5 L (cellF (encF f n)) := (R4.set (3 + n) _).congr (fun i _ => by rw [Hmlo.out]; exact (cellTo_step f (3 + n) i).trans (by rw [show 3 + n + 1 = 4 + n by omega]; exact enc_cell f n i))
        obtain ⟨x1, hx1⟩ := cellTo_int f (2 + n) (2 + n)
        obtain ⟨x2, hx2⟩ := cellTo_int f (3 + n) (3 + n)
        have q1 : wr.cell? ⟨w2.heap.size, 2 + n, none⟩ = some (.int .u8 x1) := by rw [R0.cell (by omega), hx1]
        have q2 : (wr.setCell ⟨w2.heap.size, 2 + n, none⟩ (.int .u8 ((m : Int) / 256))).cell? ⟨w2.heap.size, 3 + n, none⟩ = some (.int .u8 x2) := by rw [R4.cell (by omega), hx2]
        have f1 : wr.frozen? ⟨w2.heap.size, 2 + n, none⟩ = false := R0.frozen _
        have f2 : (wr.setCell ⟨w2.heap.size, 2 + n, none⟩ (.int .u8 ((m : Int) / 256))).frozen? ⟨w2.heap.size, 3 + n, none⟩ = false := R4.frozen _
        have HR6 : Hid (((wr.setCell ⟨w2.heap.size, 2 + n, none⟩ (.int .u8 ((m : Int) / 256))).setCell ⟨w2.heap.size, 3 + n, none⟩ (.int .u8 ((m : Int) % 256))).rowIs w2.heap.size 5 L (cellF (encF f n))) := R5
        have B6 : Hid (Below w2.heap.size w2 ((wr.setCell ⟨w2.heap.size, 2 + n, none⟩ (.int .u8 ((m : Int) / 256))).setCell ⟨w2.heap.size, 3 + n, none⟩ (.int .u8 ((m : Int) % 256)))) := (hbel.out.setCell (Nat.le_refl _) _).setCell (Nat.le_refl _) _
        clear R0 R4 R5 hx1 hx2 hrow hbel
        go_wp2_with fail
        clear q1 q2 f1 f2 x1 x2
        generalize (wr.setCell ⟨w2.heap.size, 2 + n, none⟩ (.int .u8 ((m : Int) / 256))).setCell ⟨w2.heap.size, 3 + n, none⟩ (.int .u8 ((m : Int) % 256)) = w6 at HR6 B6 ⊢
        have CE : Hid (∀ w7, Below w6.heap.size w6 w7 → ∀ j, j < L → w7.cell? ⟨w2.heap.size, j, none⟩ = some (.int .u8 ((encF f n j).toNat : Int))) := fun w7 b7 j hj => (b7.cell (World.block_lt_of_cell? _ _ (HR6.out.cell hj))).trans (HR6.out.cell hj)
        have CA : ∀ j, j < L → w6.cell? ⟨g, j, none⟩ = some (.int .u8 ((f j).toNat : Int)) := fun j hj => (B6.out.cell (by exact hg2.out)).trans ((B2.out.cell (by exact hg)).trans (HC.out _ hj))
        have hsm := same_any (encF f n) f w2.heap.size 0 L g 0 L L w6 (by omega) (fun j hj => by rw [Nat.zero_add]; exact CE.out w6 (Below.refl _ _) j hj) (fun j hj => by rw [Nat.zero_add]; exact CA j hj)
        have HB6 : Hid (Below w.heap.size w w6) := B2.out.trans (B6.out.mono B2.out.size)
        clear CA
        refine hsm.mono ?_
        rintro e w7 ⟨he, x7⟩
        have b7 : Hid (Below w6.heap.size w6 w7) := x7
        have HB7 : Hid (Below w.heap.size w w7) := HB6.out.trans (x7.mono HB6.out.size)
        clear x7 hsm
        have hs1 : ∀ w : World, (Instr.slice 22 (.slice (some ⟨w2.heap.size, 0, none⟩) L L) (some (.int .i64 2)) (some (.int .i64 (2 + (n : Int)))) none).run Tryf.prog w = .ok (.slice (some ⟨w2.heap.size, 2, none⟩) n (L - 2)) w := fun w => by
          have := sliceVec1 w2.heap.size 0 L L n w (by omega)
          rwa [offAt_lt (by omega), Nat.zero_add] at this
        rcases he with ⟨hyes, rfl⟩ | ⟨hno, rfl⟩
        · have HY : Hid (Good L f) := HGd.out.2 hyes
          have HCc : Hid (∀ j, j < n → w7.cell? ⟨w2.heap.size, 2 + j, none⟩ = some (.int .u8 ((f (2 + j)).toNat : Int))) := fun j hj => by
            have := CE.out w7 b7.out (2 + j) (by omega)
            rwa [hyes _ (by omega)] at this
          clear hyes
          go_wp2_with fail
          go_ret2
          exact ⟨Or.inl ⟨HY.out, _, _, rfl, HCc.out⟩, HB7.out⟩
        · have HY : Hid (¬ Good L f) := fun h => hno (HGd.out.1 h)
          clear hno
          go_wp2_with fail
          go_ret2
          exact ⟨Or.inr ⟨HY.out, rfl⟩, HB7.out⟩
  · have hq : ((L : Int) != 4 + (n : Int) + (m : Int)) = true := by simp; omega
    have HB : Hid (¬ Good L f) := fun h => by have := h.2.1; rw [HN.out, HM0.out] at this; omega
    clear hLe
    go_wp2_with fail
    go_ret2
    exact ⟨Or.inr ⟨HB.out, rfl⟩, B2.out⟩
end Go.Proofs.Qxb6628317aFmt
