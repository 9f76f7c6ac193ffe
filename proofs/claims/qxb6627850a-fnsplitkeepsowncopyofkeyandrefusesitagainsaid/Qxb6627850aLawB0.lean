/-
  SEAT b6627850a: FnSplitKeepsOwnCopyOfKeyAndRefusesItAgain, walked.
-/
import Derived.Test.Qxb6627850aLawA
import Derived.Test.Qxb6627850aSubset
namespace Go.Proofs.Qxb6627850a
open Go.RowKit
set_option linter.unusedVariables false

/-- everywhere but in block g -/
def Not (g : Nat) : Nat → Prop := fun b => b ≠ g
theorem Bss.grown {g : Nat} {w w' : World} {v : Value} {l : List Key} (h : Bss (Not g) w v l) (hg : w.grownBy w' (some g)) : Bss (Not g) w' v l := h.kept (fun b hS hlt => hg.block b hlt (fun e => hS (by cases e; rfl)))
theorem Bys.grown {g : Nat} {w w' : World} {v : Value} {l : Key} (h : Bys (Not g) w v l) (hg : w.grownBy w' (some g)) : Bys (Not g) w' v l := h.kept (fun b hS hlt => hg.block b hlt (fun e => hS (by cases e; rfl)))

theorem clone_not {S : Nat → Prop} {g : Nat} {w : World} {v : Value} {l : Key} (h : Bys S w v l) (hl : l.length ≤ 1048576) (hg : g < w.heap.size) :
    Calls Try.prog 8 #[v] w fun e w' => ∃ ao c, e = .returned (.slice ao l.length c) ∧ Bys (Not g) w' (.slice ao l.length c) l ∧ Below w.heap.size w w' :=
  (clone_shape h hl).mono fun e w' ⟨ao, c, he, h1, h2, _⟩ => ⟨ao, c, he, h1.bys (by unfold maxLen; omega) (by unfold Not; omega), h2⟩
theorem cloneAll_not {S : Nat → Prop} {g : Nat} {w : World} {v : Value} {ll : List Key} (h : Bss S w v ll) (hl : ll.length ≤ 1048576) (hs : ∀ l ∈ ll, l.length ≤ 1048576) (hg : g < w.heap.size) :
    Calls Try.prog 7 #[v] w fun e w' => ∃ ao c, e = .returned (.slice ao ll.length c) ∧ Bss (Not g) w' (.slice ao ll.length c) ll ∧ Below w.heap.size w w' :=
  (cloneAll_any h hl hs).mono fun e w' ⟨ao, c, he, h1, h2⟩ => ⟨ao, c, he, h1.wide (fun b _ hb => by unfold Not; omega), h2⟩
theorem split_not {T : Nat → Prop} {g : Nat} {w : World} {ao : Option Addr} {c : Nat} {u : Value} {x : List Key} {k : Key} (hx : Bss (Not g) w (.slice ao x.length c) x) (hk : Bys T w u k) (hxm : x.length ≤ 1048576) (hkm : k.length ≤ 1048576) (hs : Sorted x) (hg : g < w.heap.size) :
    Calls Try.prog 11 #[.agg #[.slice ao x.length c], u] w fun e w' => ∃ ao' c', e = .returned (.tuple #[.agg #[.slice ao' (ins x k).length c'], .bool (ok x k)]) ∧ Bss (Not g) w' (.slice ao' (ins x k).length c') (ins x k) ∧ Below w.heap.size w w' :=
  (split_any hx hk hxm hkm hs).mono fun e w' ⟨ao, c, he, h1, h2⟩ => ⟨ao, c, he, h1.wide (fun b _ hb => by unfold Not at hb ⊢; rcases hb with hb | hb; exact hb; omega), h2⟩
/-- Split, its outcome known -/
theorem split_no_at {T : Nat → Prop} {g : Nat} {w : World} {ao : Option Addr} {c : Nat} {u : Value} {x : List Key} {k : Key} (hx : Bss (Not g) w (.slice ao x.length c) x) (hk : Bys T w u k) (hxm : x.length ≤ 1048576) (hkm : k.length ≤ 1048576) (hs : Sorted x) (hg : g < w.heap.size) (hno : ok x k = false) :
    Calls Try.prog 11 #[.agg #[.slice ao x.length c], u] w fun e w' => ∃ ao' c', e = .returned (.tuple #[.agg #[.slice ao' x.length c'], .bool false]) ∧ Bss (Not g) w' (.slice ao' x.length c') x ∧ Below w.heap.size w w' := by
  have := split_not hx hk hxm hkm hs hg
  rw [hno, ins_of_not hno] at this
  exact this
theorem split_yes_at {T : Nat → Prop} {g : Nat} {w : World} {ao : Option Addr} {c : Nat} {u : Value} {x : List Key} {k : Key} (hx : Bss (Not g) w (.slice ao x.length c) x) (hk : Bys T w u k) (hxm : x.length ≤ 1048576) (hkm : k.length ≤ 1048576) (hs : Sorted x) (hg : g < w.heap.size) (hok : ok x k = true) :
    Calls Try.prog 11 #[.agg #[.slice ao x.length c], u] w fun e w' => ∃ ao' c', e = .returned (.tuple #[.agg #[.slice ao' (x.length + 1) c'], .bool true]) ∧ Bss (Not g) w' (.slice ao' (x.length + 1) c') (ins x k) ∧ Below w.heap.size w w' := by
  have := split_not hx hk hxm hkm hs hg
  have hlen : (ins x k).length = x.length + 1 := by rw [ins_of_ok hok, length_insAt]
  rw [hok, hlen] at this
  exact this
theorem split_again {T : Nat → Prop} {g : Nat} {w : World} {ao : Option Addr} {n c : Nat} {u : Value} {x : List Key} {k : Key} (hn : x.length = n) (hx : Bss (Not g) w (.slice ao n c) x) (hk : Bys T w u k) (hxm : n ≤ 1048576) (hkm : k.length ≤ 1048576) (hs : Sorted x) (hg : g < w.heap.size) (hno : ok x k = false) :
    Calls Try.prog 11 #[.agg #[.slice ao n c], u] w fun e w' => ∃ ao' c', e = .returned (.tuple #[.agg #[.slice ao' n c'], .bool false]) ∧ Bss (Not g) w' (.slice ao' n c') x ∧ Below w.heap.size w w' := by
  subst hn
  exact split_no_at hx hk hxm hkm hs hg hno
/-- the copy of a key that is not empty: a row of its own -/
theorem clone_row {S : Nat → Prop} {w : World} {v : Value} {l : Key} (h : Bys S w v l) (hl : l.length ≤ 1048576) (h0 : l ≠ []) :
    Calls Try.prog 8 #[v] w fun e w' => e = .returned (.slice (some ⟨w.heap.size, 0, none⟩) l.length l.length) ∧ w'.rowIs w.heap.size 5 l.length (cellB l) ∧ Below w.heap.size w w' :=
  (clone_any h hl).mono fun e w' ⟨r, he, h1, h2, _⟩ => by
    rcases h1 with ⟨e1, _⟩ | ⟨e1, h1⟩
    · exact absurd e1 h0
    · exact ⟨by rw [he, e1], h1, h2⟩
theorem row_bys {w : World} {g : Nat} {l : Key} (h : w.rowIs g 5 l.length (cellB l)) (hl : l.length ≤ maxLen) : Bys Any w (.slice (some ⟨g, 0, none⟩) l.length l.length) l := OwnB.bys (Or.inr ⟨rfl, h⟩) hl trivial
/-- the row's cells are bytes -/
def ByteRow (w : World) (g n : Nat) : Prop := ∃ f, w.rowIs g 5 n f ∧ ∀ i, ∃ z, f i = .int .u8 z
theorem ByteRow.cell {w : World} {g n : Nat} (h : ByteRow w g n) {i : Nat} (hi : i < n) : ∃ z, w.cell? ⟨g, i, none⟩ = some (.int .u8 z) := by
  obtain ⟨f, h1, h2⟩ := h
  obtain ⟨z, hz⟩ := h2 i
  exact ⟨z, by rw [h1.cell hi, hz]⟩
theorem ByteRow.frozen {w : World} {g n : Nat} (h : ByteRow w g n) (i : Nat) : w.frozen? ⟨g, i, none⟩ = false := by
  obtain ⟨f, h1, _⟩ := h
  exact h1.frozen i
theorem ByteRow.set {w : World} {g n : Nat} (h : ByteRow w g n) (i : Nat) (z : Int) : ByteRow (w.setCell ⟨g, i, none⟩ (.int .u8 z)) g n := by
  obtain ⟨f, h1, h2⟩ := h
  refine ⟨_, h1.set i _, fun j => ?_⟩
  by_cases e : j = i
  · exact ⟨z, if_pos e⟩
  · obtain ⟨y, hy⟩ := h2 j
    exact ⟨y, (if_neg e).trans hy⟩
theorem ByteRow.below {w w' : World} {g n : Nat} (h : ByteRow w g n) (hb : Below w.heap.size w w') : ByteRow w' g n := by
  obtain ⟨f, h1, h2⟩ := h
  exact ⟨f, h1.of_block (hb.block g h1.lt), h2⟩
theorem grown_set {w w' : World} {g : Nat} (h : w.grownBy w' (some g)) (i : Nat) (v : Value) : w.grownBy (w'.setCell ⟨g, i, none⟩ v) (some g) :=
  grown_trans h ⟨rfl, rfl, rfl, by simp [World.setCell], fun k _ hk => Below.heap_setCell _ _ _ _ (fun e => hk (by rw [e]))⟩
theorem vld_ins {x : List Key} {k : Key} (h : Vld x) : Vld (ins x k) := by
  refine ⟨fun l hl => ?_, sorted_ins k h.2⟩
  rcases mem_ins.1 hl with h1 | ⟨rfl, h1⟩
  · exact h.1 l h1
  · exact h1
theorem valid_yes {S : Nat → Prop} {w : World} {v : Value} {x : List Key} (hx : Bss S w v x) (hv : Vld x) : Calls Try.prog 6 #[v] w fun e w' => e = .returned (.bool true) ∧ Dr w w' :=
  (valid_any hx).mono fun e w' ⟨r, he, hr, hd⟩ => ⟨by rw [he, hr.2 hv], hd⟩
theorem has_is {S T : Nat → Prop} {w : World} {v u : Value} {x : List Key} {k : Key} (f : Bool) (hx : Bss S w v x) (hk : Bys T w u k) (h : x.contains k = f) : Calls Try.prog 15 #[v, u] w fun e w' => e = .returned (.bool f) ∧ Dr w w' := by
  subst h
  exact has_any hx hk
theorem eqAll_true {S T : Nat → Prop} {w : World} {v u : Value} {x : List Key} (hx : Bss S w v x) (hy : Bss T w u x) : Calls Try.prog 12 #[v, u] w fun e w' => e = .returned (.bool true) ∧ Dr w w' :=
  (eqAll_any hx hy).mono fun e w' ⟨he, hd⟩ => ⟨he.trans (ret_bool (by simp)), hd⟩

theorem split_empty_top {T : Nat → Prop} {w : World} {ao : Option Addr} {c : Nat} {u : Value} {x : List Key} (hx : Bss Any w (.slice ao x.length c) x) (hk : Bys T w u []) (hxm : x.length ≤ 1048576) (hs : Sorted x) :
    Calls Try.prog 11 #[.agg #[.slice ao x.length c], u] w fun e w' => ∃ ao' c', e = .returned (.tuple #[.agg #[.slice ao' x.length c'], .bool false]) ∧ Bss Any w' (.slice ao' x.length c') x ∧ Below w.heap.size w w' := by
  have hno : ok x [] = false := by simp [ok]
  have := split_any hx hk hxm (Nat.zero_le _) hs
  rw [hno, ins_of_not hno] at this
  exact this.mono fun e w' ⟨ao, c, he, h1, h2⟩ => ⟨ao, c, he, h1.top, h2⟩

set_option maxHeartbeats 16000000 in
set_option maxRecDepth 100000 in
theorem lawB_empty (x : List Key) (S T : Nat → Prop) (so ko : Option Addr) (sc kc : Nat) (w : World) (hx : Bss S w (.slice so x.length sc) x) (ha : Bys T w (.slice ko 0 kc) []) :
    Calls Try.prog 4 #[.slice so x.length sc, .slice ko 0 kc] w fun e w' => e = .returned (.bool true) ∧ Below w.heap.size w w' := by
  go_enter Try.func4, Try.ntmps4
  go_wp2_with fail
  refine (bytes14_any hx ha).mono ?_
  rintro e w' ⟨r, rfl, hw, hr⟩
  obtain rfl : w = w' := hw.symm
  clear hw
  cases r
  · go_wp2
    go_ret
    exact ⟨rfl, Below.refl _ _⟩
  obtain ⟨hxm, hsm, hns⟩ := hr rfl
  have ham : ([] : Key).length ≤ 1048576 := hns _ (by simp)
  have HSM : Hid (Small x) := hsm
  clear hr hns hsm
  by_cases hn : 65536 < x.length
  · go_wp2
    go_ret
    exact ⟨rfl, Below.refl _ _⟩
  go_wp2_with fail
  go_loop [5, 6] (fun z i => ∃ (k : Nat) (q : Int), k ≤ x.length ∧ i = .int .i64 k ∧ z = .int .i64 q ∧ 0 ≤ q ∧ q ≤ 4194304) (fun _ i => x.length - (intOf i).toNat)
  case atStart => exact ⟨0, _, Nat.zero_le _, rfl, rfl, by omega, by omega⟩
  case round =>
    obtain ⟨j, q, hk1, rfl, rfl, hq0, hq1⟩ := hrel
    by_cases hlt : j < x.length
    · obtain ⟨so', sc', e1, _, _, hxc⟩ := id hx
      cases e1
      obtain ⟨bb, oo, rfl, _, hxc⟩ := hxc (fun e => by subst e; simp at hlt)
      obtain ⟨u, hu, bu⟩ := hxc j hlt
      obtain ⟨a', c', rfl, hlm, _⟩ := bu
      have hl2 := HSM.out _ (List.getElem_mem hlt)
      have b1 : (j : Int) < (x.length : Int) := by omega
      by_cases hq : q ≤ 1048576
      · go_wp2
        go_round
        case rel => exact ⟨j + 1, _, by omega, by go_num, rfl, by omega, by omega⟩
        case measure => simp [intOf]; omega
      · go_wp2
        go_ret
        exact ⟨rfl, Below.refl _ _⟩
    · by_cases hq : q ≤ 1048576
      · go_wp2_with fail
        refine (valid_any hx).mono ?_
        rintro e w1 ⟨r, rfl, hr, hd⟩
        have hbW : Below w.heap.size w w1 := hd.below _
        replace hx := hd.bss hx
        replace ha := hd.bys ha
        cases r
        · go_wp2
          go_ret
          exact ⟨rfl, hbW⟩
        have HV : Hid (Vld x) := hr.1 rfl
        have hn2 : x.length ≤ 65536 := by omega
        clear hr hd hk1 hlt hq hq0 hq1 hn
        go_wp2_with fail
        refine (cloneAll_top hx hxm HSM.out).mono ?_
        rintro e w2 ⟨so1, sc1, rfl, hs, hbn⟩
        replace hx := hx.below hbn
        replace ha := ha.below hbn
        have hbX : Below w.heap.size w w2 := hbW.trans (hbn.mono hbW.size)
        clear hbW hbn
        have hbW := hbX
        clear hbX
        clear hx
        go_wp2_with fail
        refine (clone_top ha ham).mono ?_
        rintro e w3 ⟨ko1, kc1, rfl, ha1, hbn⟩
        replace ha := ha.below hbn
        replace hs := hs.below hbn
        have hbX : Below w.heap.size w w3 := hbW.trans (hbn.mono hbW.size)
        clear hbW hbn
        have hbW := hbX
        clear hbX
        clear ha
        go_wp2_with fail
        refine (cloneAll_top hs hxm HSM.out).mono ?_
        rintro e w4 ⟨oo, oc, rfl, ho, hbn⟩
        replace hs := hs.below hbn
        replace ha1 := ha1.below hbn
        have hbX : Below w.heap.size w w4 := hbW.trans (hbn.mono hbW.size)
        clear hbW hbn
        have hbW := hbX
        clear hbX
        go_wp2_with fail
        refine (clone_top ha1 ham).mono ?_
        rintro e w5 ⟨ko2, kc2, rfl, ha2, hbn⟩
        replace hs := hs.below hbn
        replace ha1 := ha1.below hbn
        replace ho := ho.below hbn
        have hbX : Below w.heap.size w w5 := hbW.trans (hbn.mono hbW.size)
        clear hbW hbn
        have hbW := hbX
        clear hbX
        simp only [List.length_nil] at *
        go_wp2_with fail
        refine (newMap_any so1 x.length sc1 _).mono ?_
        rintro e w6 ⟨rfl, hbn⟩
        replace hs := hs.below hbn
        replace ha1 := ha1.below hbn
        replace ho := ho.below hbn
        replace ha2 := ha2.below hbn
        have hbX : Below w.heap.size w w6 := hbW.trans (hbn.mono hbW.size)
        clear hbW hbn
        have hbW := hbX
        clear hbX
        go_wp2_with fail
        obtain ⟨w7, hwM⟩ : ∃ wM, wM = w6.alloc (.cells #[.slice so1 x.length sc1] 31) := ⟨_, rfl⟩
        rw [← hwM]
        have hbn : Below w6.heap.size w6 w7 := by rw [hwM]; exact (Below.refl _ _).alloc (Nat.le_refl _) _
        have c20 : w7.cell? ⟨w6.heap.size, 0, none⟩ = some (.slice so1 x.length sc1) := by rw [hwM]; simp
        clear hwM
        replace hs := hs.below hbn
        replace ha1 := ha1.below hbn
        replace ho := ho.below hbn
        replace ha2 := ha2.below hbn
        have hbX : Below w.heap.size w w7 := hbW.trans (hbn.mono hbW.size)
        clear hbW hbn
        have hbW := hbX
        clear hbX
        refine (split_empty_top hs ha1 hxm HV.out.2).mono ?_
        rintro e w8 ⟨jA, kA, rfl, hmA, hbn⟩
        replace hs := hs.below hbn
        replace ha1 := ha1.below hbn
        replace ho := ho.below hbn
        replace ha2 := ha2.below hbn
        replace c20 := cell_below c20 hbn
        have hbX : Below w.heap.size w w8 := hbW.trans (hbn.mono hbW.size)
        clear hbW hbn
        have hbW := hbX
        clear hbX
        have c20' : ∀ o, (w8.alloc o).cell? ⟨w6.heap.size, 0, none⟩ = some (.slice so1 x.length sc1) := fun o => cell_below c20 ((Below.refl _ _).alloc (Nat.le_refl _) _)
        go_wp2_with fail
        clear c20'
        obtain ⟨w9, hwM⟩ : ∃ wM, wM = w8.alloc (.cells #[.slice jA x.length kA] 31) := ⟨_, rfl⟩
        rw [← hwM]
        have hbn : Below w8.heap.size w8 w9 := by rw [hwM]; exact (Below.refl _ _).alloc (Nat.le_refl _) _
        have c21 : w9.cell? ⟨w8.heap.size, 0, none⟩ = some (.slice jA x.length kA) := by rw [hwM]; simp
        clear hwM
        replace hs := hs.below hbn
        replace ha1 := ha1.below hbn
        replace ho := ho.below hbn
        replace ha2 := ha2.below hbn
        replace hmA := hmA.below hbn
        replace c20 := cell_below c20 hbn
        have hbX : Below w.heap.size w w9 := hbW.trans (hbn.mono hbW.size)
        clear hbW hbn
        have hbW := hbX
        clear hbX
        refine wp_loop_rounds 1 ?_
        rw [rounds_succ]
        go_wp2_with fail
        refine (splits_any jA x.length kA _).mono ?_
        rintro e w10 ⟨rfl, hbn⟩
        replace hs := hs.below hbn
        replace ha1 := ha1.below hbn
        replace ho := ho.below hbn
        replace ha2 := ha2.below hbn
        replace hmA := hmA.below hbn
        replace c20 := cell_below c20 hbn
        replace c21 := cell_below c21 hbn
        have hbX : Below w.heap.size w w10 := hbW.trans (hbn.mono hbW.size)
        clear hbW hbn
        have hbW := hbX
        clear hbX
        go_wp2_with fail
        refine (splits_any so1 x.length sc1 _).mono ?_
        rintro e w11 ⟨rfl, hbn⟩
        replace hs := hs.below hbn
        replace ha1 := ha1.below hbn
        replace ho := ho.below hbn
        replace ha2 := ha2.below hbn
        replace hmA := hmA.below hbn
        replace c20 := cell_below c20 hbn
        replace c21 := cell_below c21 hbn
        have hbX : Below w.heap.size w w11 := hbW.trans (hbn.mono hbW.size)
        clear hbW hbn
        have hbW := hbX
        clear hbX
        go_wp2_with fail
        refine (eqAll_true hs ho).mono ?_
        rintro e w12 ⟨rfl, hd⟩
        have hbn := hd.below w11.heap.size
        clear hd
        replace hs := hs.below hbn
        replace ha1 := ha1.below hbn
        replace ho := ho.below hbn
        replace ha2 := ha2.below hbn
        replace hmA := hmA.below hbn
        replace c20 := cell_below c20 hbn
        replace c21 := cell_below c21 hbn
        have hbX : Below w.heap.size w w12 := hbW.trans (hbn.mono hbW.size)
        clear hbW hbn
        have hbW := hbX
        clear hbX
        go_wp2_with fail
        refine (eqAll_true hmA ho).mono ?_
        rintro e w13 ⟨rfl, hd⟩
        have hbn := hd.below w12.heap.size
        clear hd
        replace hs := hs.below hbn
        replace ha1 := ha1.below hbn
        replace ho := ho.below hbn
        replace ha2 := ha2.below hbn
        replace hmA := hmA.below hbn
        replace c20 := cell_below c20 hbn
        replace c21 := cell_below c21 hbn
        have hbX : Below w.heap.size w w13 := hbW.trans (hbn.mono hbW.size)
        clear hbW hbn
        have hbW := hbX
        clear hbX
        go_wp2
        go_ret
        exact ⟨rfl, hbW⟩
      · go_wp2
        go_ret
        exact ⟨rfl, Below.refl _ _⟩

end Go.Proofs.Qxb6627850a
