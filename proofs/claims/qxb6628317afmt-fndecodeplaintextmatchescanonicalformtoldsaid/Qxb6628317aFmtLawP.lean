/-
  SEAT b6628317aF: FnDecodePlaintextIgnoresOneMoreZeroOfPadding, walked FOR EVERY F.
-/
import Derived.Test.Qxb6628317aFmtPad
namespace Go.Proofs.Qxb6628317aFmt
open Go.RowKit Go.Lib Go.Extern.Stop Go.Stop Go.Extern
set_option linter.unusedVariables false

theorem hi_lo (m : Nat) (h : m < 65535) : ∃ hi lo : UInt8, (hi.toNat : Int) = ((m : Int) + 1) / 256 ∧ (lo.toNat : Int) = ((m : Int) + 1) % 256 ∧ be2 hi lo = m + 1 := by
  have h1 : (m + 1) / 256 < 256 := by omega
  have h2 : (m + 1) % 256 < 256 := by omega
  have e1 : (UInt8.ofNat ((m + 1) / 256)).toNat = (m + 1) / 256 := UInt8.toNat_ofNat_of_lt' h1
  have e2 : (UInt8.ofNat ((m + 1) % 256)).toNat = (m + 1) % 256 := UInt8.toNat_ofNat_of_lt' h2
  refine ⟨UInt8.ofNat ((m + 1) / 256), UInt8.ofNat ((m + 1) % 256), ?_, ?_, ?_⟩
  · rw [e1]; omega
  · rw [e2]; omega
  · unfold be2; rw [e1, e2]; omega

theorem grown_cells {f : Nat → UInt8} {L n m : Nat} {hi lo : UInt8} (ehi : (hi.toNat : Int) = ((m : Int) + 1) / 256) (elo : (lo.toNat : Int) = ((m : Int) + 1) % 256) (i : Nat) (hl : i < L + 1) :
    (if i = L then Value.int .u8 0 else if i = 3 + n then Value.int .u8 (((m : Int) + 1) % 256) else if i = 2 + n then Value.int .u8 (((m : Int) + 1) / 256) else cellTo f L i) = cellF (grown f L n hi lo) i := by
  unfold cellF
  by_cases e1 : i = L
  · have : grown f L n hi lo i = 0 := by unfold grown; rw [if_pos e1]
    rw [if_pos e1, this]; rfl
  · rw [if_neg e1]
    by_cases e2 : i = 3 + n
    · have : grown f L n hi lo i = lo := by unfold grown; rw [if_neg e1, if_pos e2]
      rw [if_pos e2, this, elo]
    · rw [if_neg e2]
      by_cases e3 : i = 2 + n
      · have : grown f L n hi lo i = hi := by unfold grown; rw [if_neg e1, if_neg e2, if_pos e3]
        rw [if_pos e3, this, ehi]
      · rw [if_neg e3, grown_at e1 e2 e3]
        unfold cellTo
        rw [if_pos (by omega)]
        rfl
theorem spoilt_cells {f : Nat → UInt8} {L n : Nat} {hi lo c : UInt8} (i : Nat) (hl : i < L + 1) :
    (if i = L then Value.int .u8 (c.toNat : Int) else cellTo (grown f L n hi lo) (L + 1) i) = cellF (spoilt f L n hi lo c) i := by
  unfold cellF
  by_cases e1 : i = L
  · subst e1
    rw [if_pos rfl, spoilt_last]
  · rw [if_neg e1, spoilt_at e1]
    unfold cellTo
    rw [if_pos (by omega)]
    rfl

theorem decG (F : Interp) (f : Nat → UInt8) (g L n : Nat) (w : World) (hF : F.answers w.tape) (hm : L ≤ maxLen) (hc : ∀ j, j < L → w.cell? ⟨g, j, none⟩ = some (.int .u8 ((f j).toNat : Int))) (hn : nOf f = n) (h : Good L f) :
    Calls Tryf.prog 8 #[.slice (some ⟨g, 0, none⟩) L L] w fun e w' => e = .returned (.tuple #[.slice (some ⟨g, 2, none⟩) n (L - 2), .nilIface]) ∧ Below w.heap.size w w' := by
  subst hn
  refine (dec_any F f g 0 L L w hF hm (Nat.le_refl _) (fun j hj => by rw [Nat.zero_add]; exact hc j hj)).mono fun e w' ⟨he, hb⟩ => ⟨?_, hb⟩
  rcases he with ⟨_, he⟩ | ⟨hb, _⟩
  · exact he
  · exact absurd h hb
theorem decB (F : Interp) (f : Nat → UInt8) (g L : Nat) (w : World) (hF : F.answers w.tape) (hm : L ≤ maxLen) (hc : ∀ j, j < L → w.cell? ⟨g, j, none⟩ = some (.int .u8 ((f j).toNat : Int))) (h : ¬ Good L f) :
    Calls Tryf.prog 8 #[.slice (some ⟨g, 0, none⟩) L L] w fun e w' => (∃ a, e = .returned (.tuple #[.slice none 0 0, .iface 43 (.pointer (some a))])) ∧ Below w.heap.size w w' := by
  refine (dec_any F f g 0 L L w hF hm (Nat.le_refl _) (fun j hj => by rw [Nat.zero_add]; exact hc j hj)).mono fun e w' ⟨he, hb⟩ => ⟨?_, hb⟩
  rcases he with ⟨hg, _⟩ | ⟨_, he⟩
  · exact absurd hg h
  · exact he
theorem same_yes (f f' : Nat → UInt8) (g g' c c' n : Nat) (w : World) (hm : n ≤ 65536) (hc : ∀ j, j < n → w.cell? ⟨g, 2 + j, none⟩ = some (.int .u8 ((f (2 + j)).toNat : Int))) (hc' : ∀ j, j < n → w.cell? ⟨g', 2 + j, none⟩ = some (.int .u8 ((f' (2 + j)).toNat : Int))) (he : ∀ j, j < n → f (2 + j) = f' (2 + j)) :
    Calls Tryf.prog 9 #[.slice (some ⟨g, 2, none⟩) n c, .slice (some ⟨g', 2, none⟩) n c'] w fun e w' => e = .returned (.bool true) ∧ Below w.heap.size w w' := by
  refine (same_any (fun j => f (2 + j)) (fun j => f' (2 + j)) g 2 c g' 2 c' n w (by omega) hc hc').mono fun e w' ⟨h, hb⟩ => ⟨?_, hb⟩
  rcases h with ⟨_, h⟩ | ⟨h, _⟩
  · exact h
  · exact absurd he h

set_option maxHeartbeats 1600000 in
set_option maxRecDepth 100000 in
theorem lawP (F : Interp) (f : Nat → UInt8) (b o L C : Nat) (c : UInt8) (w : World) (hF : F.answers w.tape) (hm : L ≤ maxLen) (hc : ∀ j, j < L → w.cell? ⟨b, o + j, none⟩ = some (.int .u8 ((f j).toNat : Int))) :
    Calls Tryf.prog 4 #[.slice (some ⟨b, o, none⟩) L C, .int .u8 (c.toNat : Int)] w fun e w' => e = .returned (.bool true) ∧ Below w.heap.size w w' := by
  have hm' := hm
  unfold maxLen at hm
  go_enter Tryf.func4, Tryf.ntmps4
  go_wp2_with fail
  refine (bytes10 _ _ _ _ _ hm').mono ?_
  rintro e w0 ⟨r, rfl, rfl⟩
  cases r
  · go_wp2_with fail
    go_ret
    exact ⟨rfl, Below.refl _ _⟩
  by_cases hbig : 1048576 < L
  · go_wp2_with fail
    go_ret
    exact ⟨rfl, Below.refl _ _⟩
  have hcl := clone_some f b o L C w0 (by omega) hc
  go_wp2_with fail
  refine hcl.mono ?_
  rintro e w1 ⟨rfl, hrow, hbel, hsz⟩
  have HR : Hid (w1.rowIs w0.heap.size 5 L (cellF f)) := hrow
  have HB : Hid (Below w0.heap.size w0 w1) := hbel
  have HZ : Hid (w1.heap.size = w0.heap.size + 1) := hsz
  clear hcl hrow hbel hsz
  by_cases h2 : L < 2
  · have h2' : (L : Int) < 2 := by omega
    go_wp2_with fail
    go_ret
    exact ⟨rfl, HB.out⟩
  have h2' : ¬ (L : Int) < 2 := by omega
  have l0 : 0 < L := by omega
  have l1 : (1 : Int) < (L : Int) := by omega
  have c0 : w1.cell? ⟨w0.heap.size, 0, none⟩ = some (.int .u8 ((f 0).toNat : Int)) := HR.out.cell (by omega)
  have c1 : w1.cell? ⟨w0.heap.size, 1, none⟩ = some (.int .u8 ((f 1).toNat : Int)) := HR.out.cell (by omega)
  have ho : bits .or .i64 (((f 0).toNat : Int) * 256) ((f 1).toNat : Int) = (nOf f : Int) := or64 _ _
  have hx := u8_le (f 0)
  have hy := u8_le (f 1)
  have hnl : nOf f < 65536 := be2_lt _ _
  generalize hn : nOf f = n at ho hnl
  have HN : Hid (nOf f = n) := hn
  clear hn
  go_wp2_with fail
  go_big_region
  have HR2 : Hid (w1.drew.rowIs w0.heap.size 5 L (cellF f)) := HR.out.of_block rfl
  have HB2 : Hid (Below w0.heap.size w0 w1.drew) := HB.out.drew
  have HZ2 : Hid (w1.drew.heap.size = w0.heap.size + 1) := HZ.out
  generalize w1.drew = w2 at HR2 HB2 HZ2 ⊢
  clear HR HB HZ c0 c1 ho hx hy
  by_cases h4 : L < 4 + n
  · have h4' : (L : Int) < 4 + (n : Int) := by omega
    go_wp2_with fail
    go_ret
    exact ⟨rfl, HB2.out⟩
  have h4' : ¬ (L : Int) < 4 + (n : Int) := by omega
  have k2 : (2 : Int) + (n : Int) < (L : Int) := by omega
  have k3 : (3 : Int) + (n : Int) < (L : Int) := by omega
  have c0 : w2.cell? ⟨w0.heap.size, 2 + n, none⟩ = some (.int .u8 ((f (2 + n)).toNat : Int)) := HR2.out.cell (by omega)
  have c1 : w2.cell? ⟨w0.heap.size, 3 + n, none⟩ = some (.int .u8 ((f (3 + n)).toNat : Int)) := HR2.out.cell (by omega)
  have ho : bits .or .i64 (((f (2 + n)).toNat : Int) * 256) ((f (3 + n)).toNat : Int) = (be2 (f (2 + n)) (f (3 + n)) : Int) := or64 _ _
  have hx := u8_le (f (2 + n))
  have hy := u8_le (f (3 + n))
  have hml := be2_lt (f (2 + n)) (f (3 + n))
  generalize hmm : be2 (f (2 + n)) (f (3 + n)) = m at ho hml
  have HM : Hid (be2 (f (2 + n)) (f (3 + n)) = m) := hmm
  clear hmm
  go_wp2_with fail
  go_big_region
  have HR3 : Hid (w2.drew.rowIs w0.heap.size 5 L (cellF f)) := HR2.out.of_block rfl
  have HB3 : Hid (Below w0.heap.size w0 w2.drew) := HB2.out.drew
  have HZ3 : Hid (w2.drew.heap.size = w0.heap.size + 1) := HZ2.out
  generalize w2.drew = w3 at HR3 HB3 HZ3 ⊢
  clear HR2 HB2 HZ2 c0 c1 ho hx hy
  by_cases hmx : m = 65535
  · have hmx' : ((m : Int) == 65535) = true := by simp; omega
    clear hmx
    go_wp2_with fail
    go_ret
    exact ⟨rfl, HB3.out⟩
  have hmx' : ((m : Int) == 65535) = false := by simp; omega
  have hmk : ∀ w : World, (Instr.makeSlice 22 (.int .i64 ((L : Int) + 1)) (.int .i64 ((L : Int) + 1))).run Tryf.prog w = .ok (.slice (some ⟨w.heap.size, 0, none⟩) (L + 1) (L + 1)) (w.alloc (.cells (madeCells #[.int .u8 0] (L + 1)) 5)) := fun w => run_make_row' (P := Tryf.prog) 22 5 (.int .u8 0) 1 Tryf.underlying22 info5 rfl .i64 .i64 (L + 1) (by omega) (by omega) w
  go_wp2_with fail
  go_loopw [8] (fun i wr => ∃ k : Nat, k ≤ L ∧ i = .int .i64 k ∧ Hid (wr.rowIs w3.heap.size 5 (L + 1) (cellTo f k)) ∧ Hid (Below w3.heap.size w3 wr) ∧ Hid (wr.heap.size = w3.heap.size + 1)) (fun i _ => L - (intOf i).toNat)
  case atStart =>
    refine ⟨0, Nat.zero_le _, rfl, (World.rowIs_made w3 (.int .u8 0) (L + 1) 5).congr (fun i _ => by simp [cellTo]), (Below.refl _ _).alloc (Nat.le_refl _) _, by simp [Hid]⟩
  case round =>
    obtain ⟨k, hk, rfl, hrow, hbel, hsz⟩ := hrel
    by_cases hlt : k < L
    · have h1 : wr.cell? ⟨w0.heap.size, k, none⟩ = some (.int .u8 ((f k).toNat : Int)) := (hbel.out.cell (by show w0.heap.size < w3.heap.size; have := HZ3.out; omega)).trans (HR3.out.cell hlt)
      obtain ⟨x, hx⟩ := cellTo_int f k k
      have h2 : wr.cell? ⟨w3.heap.size, k, none⟩ = some (.int .u8 x) := by rw [hrow.out.cell (by omega), hx]
      have h3 : wr.frozen? ⟨w3.heap.size, k, none⟩ = false := hrow.out.frozen k
      have b1 : (k : Int) < (L : Int) := by omega
      have b2 : (k : Int) < (L : Int) + 1 := by omega
      clear hx
      go_wp2_with fail
      go_roundw
      case rel =>
        refine ⟨k + 1, by omega, by go_num, (hrow.out.set k _).congr (fun i hi => cellTo_step f k i), hbel.out.setCell (Nat.le_refl _) _, ?_⟩
        have := hsz.out
        simpa [World.setCell, Hid] using this
      case measure => simp [intOf]; omega
    · obtain rfl : L = k := by omega
      have R0 := hrow.out
      have R1 := R0.set (2 + n) (.int .u8 (((m : Int) + 1) / 256))
      have R2 := R1.set (3 + n) (.int .u8 (((m : Int) + 1) % 256))
      have R3 := R2.set L (.int .u8 0)
      obtain ⟨x1, hx1⟩ := cellTo_int f L (2 + n)
      obtain ⟨x2, hx2⟩ := cellTo_int f L (3 + n)
      obtain ⟨x3, hx3⟩ := cellTo_int f L L
      have q1 : wr.cell? ⟨w3.heap.size, 2 + n, none⟩ = some (.int .u8 x1) := by rw [R0.cell (by omega), hx1]
      have q2 : (wr.setCell ⟨w3.heap.size, 2 + n, none⟩ (.int .u8 (((m : Int) + 1) / 256))).cell? ⟨w3.heap.size, 3 + n, none⟩ = some (.int .u8 x2) := by rw [R1.cell (by omega), if_neg (by omega), hx2]
      have q3 : ((wr.setCell ⟨w3.heap.size, 2 + n, none⟩ (.int .u8 (((m : Int) + 1) / 256))).setCell ⟨w3.heap.size, 3 + n, none⟩ (.int .u8 (((m : Int) + 1) % 256))).cell? ⟨w3.heap.size, L, none⟩ = some (.int .u8 x3) := by rw [R2.cell (by omega), if_neg (by omega), if_neg (by omega), hx3]
      have f1 : wr.frozen? ⟨w3.heap.size, 2 + n, none⟩ = false := R0.frozen _
      have f2 : (wr.setCell ⟨w3.heap.size, 2 + n, none⟩ (.int .u8 (((m : Int) + 1) / 256))).frozen? ⟨w3.heap.size, 3 + n, none⟩ = false := R1.frozen _
      have f3 : ((wr.setCell ⟨w3.heap.size, 2 + n, none⟩ (.int .u8 (((m : Int) + 1) / 256))).setCell ⟨w3.heap.size, 3 + n, none⟩ (.int .u8 (((m : Int) + 1) % 256))).frozen? ⟨w3.heap.size, L, none⟩ = false := R2.frozen _
      have B4 : Hid (Below w3.heap.size w3 _) := (((hbel.out.setCell (p := ⟨w3.heap.size, 2 + n, none⟩) (Nat.le_refl _) (.int .u8 (((m : Int) + 1) / 256))).setCell (p := ⟨w3.heap.size, 3 + n, none⟩) (Nat.le_refl _) (.int .u8 (((m : Int) + 1) % 256))).setCell (p := ⟨w3.heap.size, L, none⟩) (Nat.le_refl _) (.int .u8 0))
      have Z4 : Hid ((((wr.setCell ⟨w3.heap.size, 2 + n, none⟩ (.int .u8 (((m : Int) + 1) / 256))).setCell ⟨w3.heap.size, 3 + n, none⟩ (.int .u8 (((m : Int) + 1) % 256))).setCell ⟨w3.heap.size, L, none⟩ (.int .u8 0)).heap.size = w3.heap.size + 1) := by
        have := hsz.out
        simpa [World.setCell, Hid] using this
      have S4 : Hid (wr.heap.size = (((wr.setCell ⟨w3.heap.size, 2 + n, none⟩ (.int .u8 (((m : Int) + 1) / 256))).setCell ⟨w3.heap.size, 3 + n, none⟩ (.int .u8 (((m : Int) + 1) % 256))).setCell ⟨w3.heap.size, L, none⟩ (.int .u8 0)).heap.size) := by
        simp [World.setCell, Hid]
      obtain ⟨hi, lo, ehi, elo, ebe⟩ := hi_lo m (by omega)
      have R4 : Hid ((((wr.setCell ⟨w3.heap.size, 2 + n, none⟩ (.int .u8 (((m : Int) + 1) / 256))).setCell ⟨w3.heap.size, 3 + n, none⟩ (.int .u8 (((m : Int) + 1) % 256))).setCell ⟨w3.heap.size, L, none⟩ (.int .u8 0)).rowIs w3.heap.size 5 (L + 1) (cellF (grown f L n hi lo))) := R3.congr (fun i hi' => grown_cells ehi elo i hi')
      clear R0 R1 R2 R3 hx1 hx2 hx3 hrow hsz hbel
      have EB : Hid (be2 hi lo = m + 1) := ebe
      clear ehi elo ebe
      have k2' : (2 : Int) + (n : Int) < (L : Int) + 1 := by omega
      have k3' : (3 : Int) + (n : Int) < (L : Int) + 1 := by omega
      go_wp2_with fail
      clear q1 q2 q3 f1 f2 f3 x1 x2 x3 k2' k3'
      generalize ((wr.setCell ⟨w3.heap.size, 2 + n, none⟩ (.int .u8 (((m : Int) + 1) / 256))).setCell ⟨w3.heap.size, 3 + n, none⟩ (.int .u8 (((m : Int) + 1) % 256))).setCell ⟨w3.heap.size, L, none⟩ (.int .u8 0) = w4 at B4 Z4 R4 S4 ⊢
      rw [S4.out]
      clear S4
      go_loopw [10] (fun i wr => ∃ k : Nat, k ≤ L + 1 ∧ i = .int .i64 k ∧ Hid (wr.rowIs w4.heap.size 5 (L + 1) (cellTo (grown f L n hi lo) k)) ∧ Hid (Below w4.heap.size w4 wr) ∧ Hid (wr.heap.size = w4.heap.size + 1)) (fun i _ => (L + 1) - (intOf i).toNat)
      case atStart =>
        refine ⟨0, Nat.zero_le _, rfl, (World.rowIs_made w4 (.int .u8 0) (L + 1) 5).congr (fun i _ => by simp [cellTo]), (Below.refl _ _).alloc (Nat.le_refl _) _, by simp [Hid]⟩
      case round =>
        obtain ⟨k, hk, rfl, hrow, hbel, hsz⟩ := hrel
        by_cases hlt : k < L + 1
        · have h1 : wr.cell? ⟨w3.heap.size, k, none⟩ = some (.int .u8 ((grown f L n hi lo k).toNat : Int)) := (hbel.out.cell (by show w3.heap.size < w4.heap.size; have := Z4.out; omega)).trans (R4.out.cell hlt)
          obtain ⟨x, hx⟩ := cellTo_int (grown f L n hi lo) k k
          have h2 : wr.cell? ⟨w4.heap.size, k, none⟩ = some (.int .u8 x) := by rw [hrow.out.cell (by omega), hx]
          have h3 : wr.frozen? ⟨w4.heap.size, k, none⟩ = false := hrow.out.frozen k
          have b1 : (k : Int) < (L : Int) + 1 := by omega
          clear hx
          go_wp2_with fail
          go_roundw
          case rel =>
            refine ⟨k + 1, by omega, by go_num, (hrow.out.set k _).congr (fun i hi => cellTo_step _ k i), hbel.out.setCell (Nat.le_refl _) _, ?_⟩
            have := hsz.out
            simpa [World.setCell, Hid] using this
          case measure => simp [intOf]; omega
        · obtain rfl : k = L + 1 := by omega
          have R0 := hrow.out
          have R5 : Hid ((wr.setCell ⟨w4.heap.size, L, none⟩ (.int .u8 (c.toNat : Int))).rowIs w4.heap.size 5 (L + 1) (cellF (spoilt f L n hi lo c))) := (R0.set L (.int .u8 (c.toNat : Int))).congr (fun i hi' => spoilt_cells i hi')
          have B5 : Hid (Below w4.heap.size w4 (wr.setCell ⟨w4.heap.size, L, none⟩ (.int .u8 (c.toNat : Int)))) := hbel.out.setCell (Nat.le_refl _) _
          have Z5 : Hid ((wr.setCell ⟨w4.heap.size, L, none⟩ (.int .u8 (c.toNat : Int))).heap.size = w4.heap.size + 1) := by
            have := hsz.out
            simpa [World.setCell, Hid] using this
          obtain ⟨x3, hx3⟩ := cellTo_int (grown f L n hi lo) (L + 1) L
          have q1 : wr.cell? ⟨w4.heap.size, L, none⟩ = some (.int .u8 x3) := by rw [R0.cell (by omega), hx3]
          have f1 : wr.frozen? ⟨w4.heap.size, L, none⟩ = false := R0.frozen _
          clear R0 hx3 hrow hbel hsz
          go_wp2_with fail
          clear q1 f1
          generalize wr.setCell ⟨w4.heap.size, L, none⟩ (.int .u8 (c.toNat : Int)) = w5 at B5 Z5 R5 ⊢
          clear hmk
          have BW : Hid (Below w0.heap.size w0 w5) := (HB3.out.trans (B4.out.mono (by have := HZ3.out; omega))).trans (B5.out.mono (by have := HZ3.out; have := Z4.out; omega))
          have CA : Hid (∀ w6, Below w5.heap.size w5 w6 → ∀ j, j < L → w6.cell? ⟨w0.heap.size, j, none⟩ = some (.int .u8 ((f j).toNat : Int))) := fun w6 b6 j hj =>
            (b6.cell (by show w0.heap.size < w5.heap.size; have := HZ3.out; have := Z4.out; have := Z5.out; omega)).trans ((B5.out.cell (by show w0.heap.size < w4.heap.size; have := HZ3.out; have := Z4.out; omega)).trans ((B4.out.cell (by show w0.heap.size < w3.heap.size; have := HZ3.out; omega)).trans (HR3.out.cell hj)))
          have CG : Hid (∀ w6, Below w5.heap.size w5 w6 → ∀ j, j < L + 1 → w6.cell? ⟨w3.heap.size, j, none⟩ = some (.int .u8 ((grown f L n hi lo j).toNat : Int))) := fun w6 b6 j hj =>
            (b6.cell (by show w3.heap.size < w5.heap.size; have := Z4.out; have := Z5.out; omega)).trans ((B5.out.cell (by show w3.heap.size < w4.heap.size; have := Z4.out; omega)).trans (R4.out.cell hj))
          have CS : Hid (∀ w6, Below w5.heap.size w5 w6 → ∀ j, j < L + 1 → w6.cell? ⟨w4.heap.size, j, none⟩ = some (.int .u8 ((spoilt f L n hi lo c j).toNat : Int))) := fun w6 b6 j hj =>
            (b6.cell (by show w4.heap.size < w5.heap.size; have := Z5.out; omega)).trans (R5.out.cell hj)
          have HF5 : Hid (∀ w6, Below w5.heap.size w5 w6 → F.answers w6.tape) := fun w6 b6 => by rw [b6.tape, BW.out.tape]; exact hF
          have EM : Hid (be2 hi lo = mOf f + 1) := by
            show be2 hi lo = be2 (f (2 + nOf f)) (f (3 + nOf f)) + 1
            rw [HN.out, HM.out, EB.out]
          have gS : Hid (Good (L + 1) (spoilt f L n hi lo c) ↔ (Good L f ∧ c = 0)) := spoilt_good HN.out (by omega) EM.out
          have gG : Hid (Good (L + 1) (grown f L n hi lo) ↔ Good L f) := grown_good HN.out (by omega) EM.out
          clear HR3 HB3 HZ3 B4 Z4 R4 B5 Z5 R5 EB HM EM
          have b5 : Hid (Below w5.heap.size w5 w5) := Below.refl _ _
          have hs1 : ∀ w : World, (Instr.slice 22 (.slice (some ⟨w0.heap.size, 0, none⟩) L L) (some (.int .i64 2)) (some (.int .i64 (2 + (n : Int)))) none).run Tryf.prog w = .ok (.slice (some ⟨w0.heap.size, 2, none⟩) n (L - 2)) w := fun w => by
            have := sliceVec1 w0.heap.size 0 L L n w (by omega)
            rwa [offAt_lt (by omega), Nat.zero_add] at this
          by_cases hG : Good L f
          · have h1n : ¬ (n : Int) < 1 := by have := hG.1; rw [HN.out] at this; omega
            have HG : Hid (Good L f) := hG
            clear hG
            refine (decG F f _ L n _ (HF5.out _ b5.out) hm' (CA.out _ b5.out) HN.out HG.out).mono ?_
            rintro e w6 ⟨rfl, x6⟩
            have b6 : Hid (Below w5.heap.size w5 w6) := x6
            clear x6
            go_wp2_with fail
            refine (decG F (grown f L n hi lo) _ (L + 1) n _ (HF5.out _ b6.out) (by unfold maxLen; omega) (CG.out _ b6.out) (grown_n HN.out (by omega)) (gG.out.2 HG.out)).mono ?_
            rintro e w7 ⟨rfl, x7⟩
            have b7 : Hid (Below w5.heap.size w5 w7) := b6.out.trans (x7.mono b6.out.size)
            clear x7 b6
            go_wp2_with fail
            by_cases hz : c = 0
            · have gS' : Hid (Good (L + 1) (spoilt f L n hi lo c)) := gS.out.2 ⟨HG.out, hz⟩
              refine (decG F (spoilt f L n hi lo c) _ (L + 1) n _ (HF5.out _ b7.out) (by unfold maxLen; omega) (CS.out _ b7.out) (spoilt_n HN.out (by omega)) gS'.out).mono ?_
              rintro e w8 ⟨rfl, x8⟩
              have b8 : Hid (Below w5.heap.size w5 w8) := b7.out.trans (x8.mono b7.out.size)
              clear x8 b7
              have hz1 : ((c.toNat : Int) != 0) = false := by rw [hz]; rfl
              have hz2 : ((c.toNat : Int) == 0) = true := by rw [hz]; rfl
              clear hz
              go_wp2_with fail
              go_big_region
              go_wp2_with fail
              go_big_region
              have b9 : Hid (Below w5.heap.size w5 w8.drew.drew) := b8.out.drew.drew
              generalize w8.drew.drew = w9 at b9 ⊢
              clear b8
              go_wp2_with fail
              refine (same_yes f f _ _ _ _ n _ (by omega) (fun j hj => CA.out _ b9.out _ (by omega)) (fun j hj => CA.out _ b9.out _ (by omega)) (fun j hj => rfl)).mono ?_
              rintro e w10 ⟨rfl, x10⟩
              have b10 : Hid (Below w5.heap.size w5 w10) := b9.out.trans (x10.mono b9.out.size)
              clear x10 b9
              go_wp2_with fail
              refine (same_yes (grown f L n hi lo) f _ _ _ _ n _ (by omega) (fun j hj => CG.out _ b10.out _ (by omega)) (fun j hj => CA.out _ b10.out _ (by omega)) (fun j hj => grown_at (by omega) (by omega) (by omega))).mono ?_
              rintro e w11 ⟨rfl, x11⟩
              have b11 : Hid (Below w5.heap.size w5 w11) := b10.out.trans (x11.mono b10.out.size)
              clear x11 b10
              go_wp2_with fail
              refine (same_yes (spoilt f L n hi lo c) f _ _ _ _ n _ (by omega) (fun j hj => CS.out _ b11.out _ (by omega)) (fun j hj => CA.out _ b11.out _ (by omega)) (fun j hj => (spoilt_at (by omega)).trans (grown_at (by omega) (by omega) (by omega)))).mono ?_
              rintro e w12 ⟨rfl, x12⟩
              have b12 : Hid (Below w5.heap.size w5 w12) := b11.out.trans (x12.mono b11.out.size)
              clear x12 b11
              go_wp2_with fail
              go_ret
              exact ⟨rfl, BW.out.trans (b12.out.mono BW.out.size)⟩
            · have gS' : Hid (¬ Good (L + 1) (spoilt f L n hi lo c)) := fun h => hz (gS.out.1 h).2
              refine (decB F (spoilt f L n hi lo c) _ (L + 1) _ (HF5.out _ b7.out) (by unfold maxLen; omega) (CS.out _ b7.out) gS'.out).mono ?_
              rintro e w8 ⟨⟨a3, rfl⟩, x8⟩
              have b8 : Hid (Below w5.heap.size w5 w8) := b7.out.trans (x8.mono b7.out.size)
              clear x8 b7
              have hz1 : ((c.toNat : Int) != 0) = true := by
                have : c.toNat ≠ 0 := fun h => hz (UInt8.toNat_inj.1 (by simpa using h))
                simp; omega
              have hz2 : ((c.toNat : Int) == 0) = false := by
                have : c.toNat ≠ 0 := fun h => hz (UInt8.toNat_inj.1 (by simpa using h))
                simp; omega
              clear hz
              go_wp2_with fail
              go_big_region
              go_wp2_with fail
              go_big_region
              have b9 : Hid (Below w5.heap.size w5 w8.drew.drew) := b8.out.drew.drew
              generalize w8.drew.drew = w9 at b9 ⊢
              clear b8
              go_wp2_with fail
              refine (same_yes f f _ _ _ _ n _ (by omega) (fun j hj => CA.out _ b9.out _ (by omega)) (fun j hj => CA.out _ b9.out _ (by omega)) (fun j hj => rfl)).mono ?_
              rintro e w10 ⟨rfl, x10⟩
              have b10 : Hid (Below w5.heap.size w5 w10) := b9.out.trans (x10.mono b9.out.size)
              clear x10 b9
              go_wp2_with fail
              refine (same_yes (grown f L n hi lo) f _ _ _ _ n _ (by omega) (fun j hj => CG.out _ b10.out _ (by omega)) (fun j hj => CA.out _ b10.out _ (by omega)) (fun j hj => grown_at (by omega) (by omega) (by omega))).mono ?_
              rintro e w11 ⟨rfl, x11⟩
              have b11 : Hid (Below w5.heap.size w5 w11) := b10.out.trans (x11.mono b10.out.size)
              clear x11 b10
              go_wp2_with fail
              go_ret
              exact ⟨rfl, BW.out.trans (b11.out.mono BW.out.size)⟩
          · have HG : Hid (¬ Good L f) := hG
            clear hG
            refine (decB F f _ L _ (HF5.out _ b5.out) hm' (CA.out _ b5.out) HG.out).mono ?_
            rintro e w6 ⟨⟨a1, rfl⟩, x6⟩
            have b6 : Hid (Below w5.heap.size w5 w6) := x6
            clear x6
            go_wp2_with fail
            refine (decB F (grown f L n hi lo) _ (L + 1) _ (HF5.out _ b6.out) (by unfold maxLen; omega) (CG.out _ b6.out) (fun h => HG.out (gG.out.1 h))).mono ?_
            rintro e w7 ⟨⟨a2, rfl⟩, x7⟩
            have b7 : Hid (Below w5.heap.size w5 w7) := b6.out.trans (x7.mono b6.out.size)
            clear x7 b6
            go_wp2_with fail
            refine (decB F (spoilt f L n hi lo c) _ (L + 1) _ (HF5.out _ b7.out) (by unfold maxLen; omega) (CS.out _ b7.out) (fun h => HG.out (gS.out.1 h).1)).mono ?_
            rintro e w8 ⟨⟨a3, rfl⟩, x8⟩
            have b8 : Hid (Below w5.heap.size w5 w8) := b7.out.trans (x8.mono b7.out.size)
            clear x8 b7
            by_cases hz : c = 0
            · have hz1 : ((c.toNat : Int) != 0) = false := by rw [hz]; rfl
              have hz2 : ((c.toNat : Int) == 0) = true := by rw [hz]; rfl
              clear hz
              go_wp2_with fail
              go_big_region
              go_wp2_with fail
              go_big_region
              have b9 : Hid (Below w5.heap.size w5 w8.drew.drew) := b8.out.drew.drew
              generalize w8.drew.drew = w9 at b9 ⊢
              clear b8
              go_wp2_with fail
              go_ret
              exact ⟨rfl, BW.out.trans (b9.out.mono BW.out.size)⟩
            · have hz1 : ((c.toNat : Int) != 0) = true := by
                have : c.toNat ≠ 0 := fun h => hz (UInt8.toNat_inj.1 (by simpa using h))
                simp; omega
              have hz2 : ((c.toNat : Int) == 0) = false := by
                have : c.toNat ≠ 0 := fun h => hz (UInt8.toNat_inj.1 (by simpa using h))
                simp; omega
              clear hz
              go_wp2_with fail
              go_big_region
              go_wp2_with fail
              go_big_region
              have b9 : Hid (Below w5.heap.size w5 w8.drew.drew) := b8.out.drew.drew
              generalize w8.drew.drew = w9 at b9 ⊢
              clear b8
              go_wp2_with fail
              go_ret
              exact ⟨rfl, BW.out.trans (b9.out.mono BW.out.size)⟩
end Go.Proofs.Qxb6628317aFmt
