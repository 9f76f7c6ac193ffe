/-
  SEAT b6627850a: FnSplitKeepsOwnCopyOfKeyAndRefusesItAgain, walked: a key that is not empty.
-/
import Derived.Test.Qxb6627850aLawB0
namespace Go.Proofs.Qxb6627850a
open Go.RowKit
set_option linter.unusedVariables false

set_option maxHeartbeats 16000000 in
set_option maxRecDepth 100000 in
theorem lawB_key (x : List Key) (k : Key) (S T : Nat → Prop) (so ko : Option Addr) (sc kc : Nat) (w : World) (hx : Bss S w (.slice so x.length sc) x) (ha : Bys T w (.slice ko k.length kc) k) (hk0 : k ≠ []) :
    Calls Try.prog 4 #[.slice so x.length sc, .slice ko k.length kc] w fun e w' => e = .returned (.bool true) ∧ Below w.heap.size w w' := by
  go_enter Try.func4, Try.ntmps4
  go_wp2_with fail
  refine (bytes14_any hx ha).mono ?_
  rintro e w' ⟨r, rfl, hw, hr⟩
  obtain rfl : w = w' := hw.symm
  clear hw
  cases r
  · go_wp2
    go_ret
    exact ⟨rfl, Below.refl _ _⟩
  obtain ⟨hxm, hsm, hns⟩ := hr rfl
  have ham : k.length ≤ 1048576 := hns _ (by simp)
  have HSM : Hid (Small x) := hsm
  clear hr hns hsm
  by_cases hn : 65536 < x.length
  · go_wp2
    go_ret
    exact ⟨rfl, Below.refl _ _⟩
  go_wp2_with fail
  go_loop [5, 6] (fun z i => ∃ (k : Nat) (q : Int), k ≤ x.length ∧ i = .int .i64 k ∧ z = .int .i64 q ∧ 0 ≤ q ∧ q ≤ 4194304) (fun _ i => x.length - (intOf i).toNat)
  case atStart => exact ⟨0, _, Nat.zero_le _, rfl, rfl, by omega, by omega⟩
  case round =>
    obtain ⟨j, q, hk1, rfl, rfl, hq0, hq1⟩ := hrel
    by_cases hlt : j < x.length
    · obtain ⟨so', sc', e1, _, _, hxc⟩ := id hx
      cases e1
      obtain ⟨bb, oo, rfl, _, hxc⟩ := hxc (fun e => by subst e; simp at hlt)
      obtain ⟨u, hu, bu⟩ := hxc j hlt
      obtain ⟨a', c', rfl, hlm, _⟩ := bu
      have hl2 := HSM.out _ (List.getElem_mem hlt)
      have b1 : (j : Int) < (x.length : Int) := by omega
      by_cases hq : q ≤ 1048576
      · go_wp2
        go_round
        case rel => exact ⟨j + 1, _, by omega, by go_num, rfl, by omega, by omega⟩
        case measure => simp [intOf]; omega
      · go_wp2
        go_ret
        exact ⟨rfl, Below.refl _ _⟩
    · by_cases hq : q ≤ 1048576
      · go_wp2_with fail
        refine (valid_any hx).mono ?_
        rintro e w1 ⟨r, rfl, hr, hd⟩
        have hbW : Below w.heap.size w w1 := hd.below _
        replace hx := hd.bss hx
        replace ha := hd.bys ha
        cases r
        · go_wp2
          go_ret
          exact ⟨rfl, hbW⟩
        have HV : Hid (Vld x) := hr.1 rfl
        have hn2 : x.length ≤ 65536 := by omega
        clear hr hd hk1 hlt hq hq0 hq1 hn
        go_wp2_with fail
        refine (cloneAll_top hx hxm HSM.out).mono ?_
        rintro e w2 ⟨so1, sc1, rfl, hs, hbn⟩
        replace hx := hx.below hbn
        replace ha := ha.below hbn
        have hbX : Below w.heap.size w w2 := hbW.trans (hbn.mono hbW.size)
        clear hbW hbn
        have hbW := hbX
        clear hbX
        have hbW2 : w.heap.size ≤ w2.heap.size := hbW.size
        replace hs : Bss (Not w2.heap.size) w2 (.slice so1 x.length sc1) x := hs.wide (fun b hb _ => by unfold Not; omega)
        clear hx
        go_wp2_with fail
        refine (clone_row ha ham hk0).mono ?_
        rintro e w3 ⟨rfl, hrow, hbn⟩
        replace ha := ha.below hbn
        replace hs := hs.below hbn
        have hbX : Below w.heap.size w w3 := hbW.trans (hbn.mono hbW.size)
        clear hbW hbn
        have hbW := hbX
        clear hbX
        clear ha
        have hg := hrow.lt
        have ha1 := row_bys hrow (by unfold maxLen; omega)
        have hbr : ByteRow w3 w2.heap.size k.length := ⟨_, hrow, fun i => ⟨_, rfl⟩⟩
        clear hrow
        go_wp2_with fail
        refine (cloneAll_not hs hxm HSM.out hg).mono ?_
        rintro e w4 ⟨oo, oc, rfl, ho, hbn⟩
        replace hs := hs.below hbn
        replace ha1 := ha1.below hbn
        replace hbr := hbr.below hbn
        have hbX : Below w.heap.size w w4 := hbW.trans (hbn.mono hbW.size)
        clear hbW hbn
        have hbW := hbX
        clear hbX
        have hg4 : w2.heap.size < w4.heap.size := by obtain ⟨f, h, _⟩ := hbr; exact h.lt
        go_wp2_with fail
        refine (clone_not ha1 ham hg4).mono ?_
        rintro e w5 ⟨ko2, kc2, rfl, ha2, hbn⟩
        replace hs := hs.below hbn
        replace ha1 := ha1.below hbn
        replace hbr := hbr.below hbn
        replace ho := ho.below hbn
        have hbX : Below w.heap.size w w5 := hbW.trans (hbn.mono hbW.size)
        clear hbW hbn
        have hbW := hbX
        clear hbX
        have hkp : (0 : Int) < (k.length : Int) := by have := List.length_pos_iff.2 hk0; omega
        have hbase : w.heap.size ≤ w2.heap.size := hbW2
        cases hcon : x.contains k with
        | true =>
          have hno : ok x k = false := by unfold ok; rw [hcon]; simp
          have HNO : Hid (ok x k = false) := hno
          clear hno
          go_wp2_with fail
          refine (has_is true ho ha2 hcon).mono ?_
          rintro e w6 ⟨rfl, hd⟩
          have hbn := hd.below w5.heap.size
          clear hd
          replace hs := hs.below hbn
          replace ha1 := ha1.below hbn
          replace hbr := hbr.below hbn
          replace ho := ho.below hbn
          replace ha2 := ha2.below hbn
          have hbX : Below w.heap.size w w6 := hbW.trans (hbn.mono hbW.size)
          clear hbW hbn
          have hbW := hbX
          clear hbX
          go_wp2_with fail
          refine (newMap_any so1 x.length sc1 _).mono ?_
          rintro e w7 ⟨rfl, hbn⟩
          replace hs := hs.below hbn
          replace ha1 := ha1.below hbn
          replace hbr := hbr.below hbn
          replace ho := ho.below hbn
          replace ha2 := ha2.below hbn
          have hbX : Below w.heap.size w w7 := hbW.trans (hbn.mono hbW.size)
          clear hbW hbn
          have hbW := hbX
          clear hbX
          have hgb7 : w2.heap.size < w7.heap.size := by obtain ⟨f, h, _⟩ := hbr; exact h.lt
          go_wp2_with fail
          obtain ⟨w8, hwM⟩ : ∃ wM, wM = w7.alloc (.cells #[.slice so1 x.length sc1] 31) := ⟨_, rfl⟩
          rw [← hwM]
          have hbn : Below w7.heap.size w7 w8 := by rw [hwM]; exact (Below.refl _ _).alloc (Nat.le_refl _) _
          have c20 : w8.cell? ⟨w7.heap.size, 0, none⟩ = some (.slice so1 x.length sc1) := by rw [hwM]; simp
          clear hwM
          replace hs := hs.below hbn
          replace ha1 := ha1.below hbn
          replace hbr := hbr.below hbn
          replace ho := ho.below hbn
          replace ha2 := ha2.below hbn
          have hbX : Below w.heap.size w w8 := hbW.trans (hbn.mono hbW.size)
          clear hbW hbn
          have hbW := hbX
          clear hbX
          have hg8 : w2.heap.size < w8.heap.size := by obtain ⟨f, h, _⟩ := hbr; exact h.lt
          refine (split_no_at hs ha1 hxm ham HV.out.2 hg8 HNO.out).mono ?_
          rintro e w9 ⟨jA, kA, rfl, hmA, hbn⟩
          replace hs := hs.below hbn
          replace ha1 := ha1.below hbn
          replace hbr := hbr.below hbn
          replace ho := ho.below hbn
          replace ha2 := ha2.below hbn
          replace c20 := cell_below c20 hbn
          have hbX : Below w.heap.size w w9 := hbW.trans (hbn.mono hbW.size)
          clear hbW hbn
          have hbW := hbX
          clear hbX
          have hgb9 : w2.heap.size < w9.heap.size := by obtain ⟨f, h, _⟩ := hbr; exact h.lt
          have c20' : ∀ o, (w9.alloc o).cell? ⟨w7.heap.size, 0, none⟩ = some (.slice so1 x.length sc1) := fun o => cell_below c20 ((Below.refl _ _).alloc (Nat.le_refl _) _)
          go_wp2_with fail
          clear c20'
          obtain ⟨w10, hwM⟩ : ∃ wM, wM = w9.alloc (.cells #[.slice jA x.length kA] 31) := ⟨_, rfl⟩
          rw [← hwM]
          have hbn : Below w9.heap.size w9 w10 := by rw [hwM]; exact (Below.refl _ _).alloc (Nat.le_refl _) _
          have c21 : w10.cell? ⟨w9.heap.size, 0, none⟩ = some (.slice jA x.length kA) := by rw [hwM]; simp
          clear hwM
          replace hs := hs.below hbn
          replace ha1 := ha1.below hbn
          replace hbr := hbr.below hbn
          replace ho := ho.below hbn
          replace ha2 := ha2.below hbn
          replace hmA := hmA.below hbn
          replace c20 := cell_below c20 hbn
          have hbX : Below w.heap.size w w10 := hbW.trans (hbn.mono hbW.size)
          clear hbW hbn
          have hbW := hbX
          clear hbX
          have hgW : w2.heap.size < w10.heap.size := by obtain ⟨f, h, _⟩ := hbr; exact h.lt
          go_loopw [13] (fun i wr => ∃ t : Nat, t ≤ k.length ∧ i = .int .i64 t ∧ w10.grownBy wr (some w2.heap.size) ∧ ByteRow wr w2.heap.size k.length) (fun i _ => k.length - (intOf i).toNat)
          case atStart => exact ⟨0, Nat.zero_le _, rfl, World.grownBy.refl _ _, hbr⟩
          case round =>
            obtain ⟨t, ht, rfl, hgr, hbt⟩ := hrel
            by_cases htl : t < k.length
            · obtain ⟨z, hz⟩ := hbt.cell htl
              have hf := hbt.frozen t
              have b1 : (t : Int) < (k.length : Int) := by omega
              have HB : Hid (ByteRow wr w2.heap.size k.length) := hbt
              clear hbt
              go_wp2
              go_roundw
              case rel => exact ⟨t + 1, by omega, by go_num, grown_set hgr _ _, HB.out.set t _⟩
              case measure => simp [intOf]; omega
            · have htl2 : ¬ (t : Int) < (k.length : Int) := by omega
              obtain ⟨w11, hwN⟩ : ∃ w, w = wr := ⟨_, rfl⟩
              subst hwN
              replace hs := hs.grown hgr
              replace ho := ho.grown hgr
              replace ha2 := ha2.grown hgr
              replace hmA := hmA.grown hgr
              replace c20 := hgr.cell c20 (fun e => by simp at e; omega)
              replace c21 := hgr.cell c21 (fun e => by simp at e; omega)
              have hsW : w2.heap.size < w11.heap.size := by have := hgr.size; omega
              have hbX : Below w.heap.size w w11 := hbW.grown hgr hbW.size (fun q e => by cases e; exact hbase)
              clear hbW hgr hbt hbr ha1
              have hbW := hbX
              clear hbX
              go_wp2_with fail
              refine (splits_any jA x.length kA _).mono ?_
              rintro e w12 ⟨rfl, hbn⟩
              replace hs := hs.below hbn
              replace ho := ho.below hbn
              replace ha2 := ha2.below hbn
              replace hmA := hmA.below hbn
              replace c20 := cell_below c20 hbn
              replace c21 := cell_below c21 hbn
              have hbX : Below w.heap.size w w12 := hbW.trans (hbn.mono hbW.size)
              clear hbW hbn
              have hbW := hbX
              clear hbX
              go_wp2_with fail
              refine (splits_any so1 x.length sc1 _).mono ?_
              rintro e w13 ⟨rfl, hbn⟩
              replace hs := hs.below hbn
              replace ho := ho.below hbn
              replace ha2 := ha2.below hbn
              replace hmA := hmA.below hbn
              replace c20 := cell_below c20 hbn
              replace c21 := cell_below c21 hbn
              have hbX : Below w.heap.size w w13 := hbW.trans (hbn.mono hbW.size)
              clear hbW hbn
              have hbW := hbX
              clear hbX
              go_wp2_with fail
              refine (eqAll_true hs ho).mono ?_
              rintro e w14 ⟨rfl, hd⟩
              have hbn := hd.below w13.heap.size
              clear hd
              replace hs := hs.below hbn
              replace ho := ho.below hbn
              replace ha2 := ha2.below hbn
              replace hmA := hmA.below hbn
              replace c20 := cell_below c20 hbn
              replace c21 := cell_below c21 hbn
              have hbX : Below w.heap.size w w14 := hbW.trans (hbn.mono hbW.size)
              clear hbW hbn
              have hbW := hbX
              clear hbX
              go_wp2_with fail
              refine (eqAll_true hmA ho).mono ?_
              rintro e w15 ⟨rfl, hd⟩
              have hbn := hd.below w14.heap.size
              clear hd
              replace hs := hs.below hbn
              replace ho := ho.below hbn
              replace ha2 := ha2.below hbn
              replace hmA := hmA.below hbn
              replace c20 := cell_below c20 hbn
              replace c21 := cell_below c21 hbn
              have hbX : Below w.heap.size w w15 := hbW.trans (hbn.mono hbW.size)
              clear hbW hbn
              have hbW := hbX
              clear hbX
              go_wp2
              go_ret
              exact ⟨rfl, hbW⟩
        | false =>
          have HOK : Hid (ok x k = true) := by unfold ok; rw [Hid, hcon]; simp [hk0]
          go_wp2_with fail
          refine (has_is false ho ha2 hcon).mono ?_
          rintro e w6 ⟨rfl, hd⟩
          have hbn := hd.below w5.heap.size
          clear hd
          replace hs := hs.below hbn
          replace ha1 := ha1.below hbn
          replace hbr := hbr.below hbn
          replace ho := ho.below hbn
          replace ha2 := ha2.below hbn
          have hbX : Below w.heap.size w w6 := hbW.trans (hbn.mono hbW.size)
          clear hbW hbn
          have hbW := hbX
          clear hbX
          go_wp2_with fail
          refine (newMap_any so1 x.length sc1 _).mono ?_
          rintro e w7 ⟨rfl, hbn⟩
          replace hs := hs.below hbn
          replace ha1 := ha1.below hbn
          replace hbr := hbr.below hbn
          replace ho := ho.below hbn
          replace ha2 := ha2.below hbn
          have hbX : Below w.heap.size w w7 := hbW.trans (hbn.mono hbW.size)
          clear hbW hbn
          have hbW := hbX
          clear hbX
          have hgb7 : w2.heap.size < w7.heap.size := by obtain ⟨f, h, _⟩ := hbr; exact h.lt
          go_wp2_with fail
          obtain ⟨w8, hwM⟩ : ∃ wM, wM = w7.alloc (.cells #[.slice so1 x.length sc1] 31) := ⟨_, rfl⟩
          rw [← hwM]
          have hbn : Below w7.heap.size w7 w8 := by rw [hwM]; exact (Below.refl _ _).alloc (Nat.le_refl _) _
          have c20 : w8.cell? ⟨w7.heap.size, 0, none⟩ = some (.slice so1 x.length sc1) := by rw [hwM]; simp
          clear hwM
          replace hs := hs.below hbn
          replace ha1 := ha1.below hbn
          replace hbr := hbr.below hbn
          replace ho := ho.below hbn
          replace ha2 := ha2.below hbn
          have hbX : Below w.heap.size w w8 := hbW.trans (hbn.mono hbW.size)
          clear hbW hbn
          have hbW := hbX
          clear hbX
          have hg8 : w2.heap.size < w8.heap.size := by obtain ⟨f, h, _⟩ := hbr; exact h.lt
          refine (split_yes_at hs ha1 hxm ham HV.out.2 hg8 HOK.out).mono ?_
          rintro e w9 ⟨jA, kA, rfl, hmA, hbn⟩
          replace hs := hs.below hbn
          replace ha1 := ha1.below hbn
          replace hbr := hbr.below hbn
          replace ho := ho.below hbn
          replace ha2 := ha2.below hbn
          replace c20 := cell_below c20 hbn
          have hbX : Below w.heap.size w w9 := hbW.trans (hbn.mono hbW.size)
          clear hbW hbn
          have hbW := hbX
          clear hbX
          have hgb9 : w2.heap.size < w9.heap.size := by obtain ⟨f, h, _⟩ := hbr; exact h.lt
          have c20' : ∀ o, (w9.alloc o).cell? ⟨w7.heap.size, 0, none⟩ = some (.slice so1 x.length sc1) := fun o => cell_below c20 ((Below.refl _ _).alloc (Nat.le_refl _) _)
          go_wp2_with fail
          clear c20'
          obtain ⟨w10, hwM⟩ : ∃ wM, wM = w9.alloc (.cells #[.slice jA (x.length + 1) kA] 31) := ⟨_, rfl⟩
          rw [← hwM]
          have hbn : Below w9.heap.size w9 w10 := by rw [hwM]; exact (Below.refl _ _).alloc (Nat.le_refl _) _
          have c21 : w10.cell? ⟨w9.heap.size, 0, none⟩ = some (.slice jA (x.length + 1) kA) := by rw [hwM]; simp
          clear hwM
          replace hs := hs.below hbn
          replace ha1 := ha1.below hbn
          replace hbr := hbr.below hbn
          replace ho := ho.below hbn
          replace ha2 := ha2.below hbn
          replace hmA := hmA.below hbn
          replace c20 := cell_below c20 hbn
          have hbX : Below w.heap.size w w10 := hbW.trans (hbn.mono hbW.size)
          clear hbW hbn
          have hbW := hbX
          clear hbX
          have hgW : w2.heap.size < w10.heap.size := by obtain ⟨f, h, _⟩ := hbr; exact h.lt
          go_loopw [13] (fun i wr => ∃ t : Nat, t ≤ k.length ∧ i = .int .i64 t ∧ w10.grownBy wr (some w2.heap.size) ∧ ByteRow wr w2.heap.size k.length) (fun i _ => k.length - (intOf i).toNat)
          case atStart => exact ⟨0, Nat.zero_le _, rfl, World.grownBy.refl _ _, hbr⟩
          case round =>
            obtain ⟨t, ht, rfl, hgr, hbt⟩ := hrel
            by_cases htl : t < k.length
            · obtain ⟨z, hz⟩ := hbt.cell htl
              have hf := hbt.frozen t
              have b1 : (t : Int) < (k.length : Int) := by omega
              have HB : Hid (ByteRow wr w2.heap.size k.length) := hbt
              clear hbt
              go_wp2
              go_roundw
              case rel => exact ⟨t + 1, by omega, by go_num, grown_set hgr _ _, HB.out.set t _⟩
              case measure => simp [intOf]; omega
            · have htl2 : ¬ (t : Int) < (k.length : Int) := by omega
              obtain ⟨w11, hwN⟩ : ∃ w, w = wr := ⟨_, rfl⟩
              subst hwN
              replace hs := hs.grown hgr
              replace ho := ho.grown hgr
              replace ha2 := ha2.grown hgr
              replace hmA := hmA.grown hgr
              replace c20 := hgr.cell c20 (fun e => by simp at e; omega)
              replace c21 := hgr.cell c21 (fun e => by simp at e; omega)
              have hsW : w2.heap.size < w11.heap.size := by have := hgr.size; omega
              have hbX : Below w.heap.size w w11 := hbW.grown hgr hbW.size (fun q e => by cases e; exact hbase)
              clear hbW hgr hbt hbr ha1
              have hbW := hbX
              clear hbX
              go_wp2_with fail
              refine (splits_any jA (x.length + 1) kA _).mono ?_
              rintro e w12 ⟨rfl, hbn⟩
              replace hs := hs.below hbn
              replace ho := ho.below hbn
              replace ha2 := ha2.below hbn
              replace hmA := hmA.below hbn
              replace c20 := cell_below c20 hbn
              replace c21 := cell_below c21 hbn
              have hbX : Below w.heap.size w w12 := hbW.trans (hbn.mono hbW.size)
              clear hbW hbn
              have hbW := hbX
              clear hbX
              go_wp2_with fail
              refine (splits_any so1 x.length sc1 _).mono ?_
              rintro e w13 ⟨rfl, hbn⟩
              replace hs := hs.below hbn
              replace ho := ho.below hbn
              replace ha2 := ha2.below hbn
              replace hmA := hmA.below hbn
              replace c20 := cell_below c20 hbn
              replace c21 := cell_below c21 hbn
              have hbX : Below w.heap.size w w13 := hbW.trans (hbn.mono hbW.size)
              clear hbW hbn
              have hbW := hbX
              clear hbX
              go_wp2_with fail
              refine (eqAll_true hs ho).mono ?_
              rintro e w14 ⟨rfl, hd⟩
              have hbn := hd.below w13.heap.size
              clear hd
              replace hs := hs.below hbn
              replace ho := ho.below hbn
              replace ha2 := ha2.below hbn
              replace hmA := hmA.below hbn
              replace c20 := cell_below c20 hbn
              replace c21 := cell_below c21 hbn
              have hbX : Below w.heap.size w w14 := hbW.trans (hbn.mono hbW.size)
              clear hbW hbn
              have hbW := hbX
              clear hbX
              go_wp2_with fail
              refine (valid_yes hmA (vld_ins HV.out)).mono ?_
              rintro e w15 ⟨rfl, hd⟩
              have hbn := hd.below w14.heap.size
              clear hd
              replace hs := hs.below hbn
              replace ho := ho.below hbn
              replace ha2 := ha2.below hbn
              replace hmA := hmA.below hbn
              replace c20 := cell_below c20 hbn
              replace c21 := cell_below c21 hbn
              have hbX : Below w.heap.size w w15 := hbW.trans (hbn.mono hbW.size)
              clear hbW hbn
              have hbW := hbX
              clear hbX
              go_wp2_with fail
              refine (subset_any ho hmA HV.out.2 (sorted_ins k HV.out.2) (fun l hl => mem_ins.2 (Or.inl hl))).mono ?_
              rintro e w16 ⟨rfl, hd⟩
              have hbn := hd.below w15.heap.size
              clear hd
              replace hs := hs.below hbn
              replace ho := ho.below hbn
              replace ha2 := ha2.below hbn
              replace hmA := hmA.below hbn
              replace c20 := cell_below c20 hbn
              replace c21 := cell_below c21 hbn
              have hbX : Below w.heap.size w w16 := hbW.trans (hbn.mono hbW.size)
              clear hbW hbn
              have hbW := hbX
              clear hbX
              go_wp2_with fail
              refine (has_is true hmA ha2 (by simpa using mem_ins.2 (Or.inr ⟨rfl, hk0⟩))).mono ?_
              rintro e w17 ⟨rfl, hd⟩
              have hbn := hd.below w16.heap.size
              clear hd
              replace hs := hs.below hbn
              replace ho := ho.below hbn
              replace ha2 := ha2.below hbn
              replace hmA := hmA.below hbn
              replace c20 := cell_below c20 hbn
              replace c21 := cell_below c21 hbn
              have hbX : Below w.heap.size w w17 := hbW.trans (hbn.mono hbW.size)
              clear hbW hbn
              have hbW := hbX
              clear hbX
              have hsZ : w2.heap.size < w17.heap.size := by have h7 : w7.heap.size < w17.heap.size := World.block_lt_of_cell? _ _ c20; omega
              go_wp2_with fail
              refine (split_again (by rw [ins_of_ok HOK.out, length_insAt]) hmA ha2 (by omega) ham (sorted_ins k HV.out.2) hsZ not_ok_ins).mono ?_
              rintro e w18 ⟨jB, kB, rfl, hmB, hbn⟩
              replace hs := hs.below hbn
              replace ho := ho.below hbn
              replace ha2 := ha2.below hbn
              replace hmA := hmA.below hbn
              replace c20 := cell_below c20 hbn
              replace c21 := cell_below c21 hbn
              have hbX : Below w.heap.size w w18 := hbW.trans (hbn.mono hbW.size)
              clear hbW hbn
              have hbW := hbX
              clear hbX
              have c20' : ∀ o, (w18.alloc o).cell? ⟨w7.heap.size, 0, none⟩ = some (.slice so1 x.length sc1) := fun o => cell_below c20 ((Below.refl _ _).alloc (Nat.le_refl _) _)
              have c21' : ∀ o, (w18.alloc o).cell? ⟨w9.heap.size, 0, none⟩ = some (.slice jA (x.length + 1) kA) := fun o => cell_below c21 ((Below.refl _ _).alloc (Nat.le_refl _) _)
              go_wp2_with fail
              clear c20'
              clear c21'
              obtain ⟨w19, hwM⟩ : ∃ wM, wM = w18.alloc (.cells #[.slice jB (x.length + 1) kB] 31) := ⟨_, rfl⟩
              rw [← hwM]
              have hbn : Below w18.heap.size w18 w19 := by rw [hwM]; exact (Below.refl _ _).alloc (Nat.le_refl _) _
              have c15 : w19.cell? ⟨w18.heap.size, 0, none⟩ = some (.slice jB (x.length + 1) kB) := by rw [hwM]; simp
              clear hwM
              replace hs := hs.below hbn
              replace ho := ho.below hbn
              replace ha2 := ha2.below hbn
              replace hmA := hmA.below hbn
              replace hmB := hmB.below hbn
              replace c20 := cell_below c20 hbn
              replace c21 := cell_below c21 hbn
              have hbX : Below w.heap.size w w19 := hbW.trans (hbn.mono hbW.size)
              clear hbW hbn
              have hbW := hbX
              clear hbX
              refine (splits_any jB (x.length + 1) kB _).mono ?_
              rintro e w20 ⟨rfl, hbn⟩
              replace hs := hs.below hbn
              replace ho := ho.below hbn
              replace ha2 := ha2.below hbn
              replace hmA := hmA.below hbn
              replace hmB := hmB.below hbn
              replace c20 := cell_below c20 hbn
              replace c21 := cell_below c21 hbn
              replace c15 := cell_below c15 hbn
              have hbX : Below w.heap.size w w20 := hbW.trans (hbn.mono hbW.size)
              clear hbW hbn
              have hbW := hbX
              clear hbX
              go_wp2_with fail
              refine (eqAll_true hmB hmA).mono ?_
              rintro e w21 ⟨rfl, hd⟩
              have hbn := hd.below w20.heap.size
              clear hd
              replace hs := hs.below hbn
              replace ho := ho.below hbn
              replace ha2 := ha2.below hbn
              replace hmA := hmA.below hbn
              replace hmB := hmB.below hbn
              replace c20 := cell_below c20 hbn
              replace c21 := cell_below c21 hbn
              replace c15 := cell_below c15 hbn
              have hbX : Below w.heap.size w w21 := hbW.trans (hbn.mono hbW.size)
              clear hbW hbn
              have hbW := hbX
              clear hbX
              go_wp2
              go_ret
              exact ⟨rfl, hbW⟩
      · go_wp2
        go_ret
        exact ⟨rfl, Below.refl _ _⟩

end Go.Proofs.Qxb6627850a
