/-
  SEAT b6627850a: FnSplitTwoKeysOrderFreeAgainstSortedSet, walked.
-/
import Derived.Test.Qxb6627850aSplit
import Derived.Test.Qxb6627850aBytes
namespace Go.Proofs.Qxb6627850a
open Go.RowKit
open Go.BigFrame
set_option linter.unusedVariables false

/-- no word on where it lies -/
def Any : Nat → Prop := fun _ => True
theorem Bss.top {S : Nat → Prop} {w : World} {v : Value} {l : List Key} (h : Bss S w v l) : Bss Any w v l := h.wide (fun _ _ _ => trivial)
theorem Bys.top {S : Nat → Prop} {w : World} {v : Value} {l : Key} (h : Bys S w v l) : Bys Any w v l := h.wide (fun _ _ _ => trivial)

theorem clone_top {S : Nat → Prop} {w : World} {v : Value} {l : Key} (h : Bys S w v l) (hl : l.length ≤ 1048576) :
    Calls Try.prog 8 #[v] w fun e w' => ∃ ao c, e = .returned (.slice ao l.length c) ∧ Bys Any w' (.slice ao l.length c) l ∧ Below w.heap.size w w' :=
  (clone_shape h hl).mono fun e w' ⟨ao, c, he, h1, h2, _⟩ => ⟨ao, c, he, h1.bys (by unfold maxLen; omega) trivial, h2⟩
theorem cloneAll_top {S : Nat → Prop} {w : World} {v : Value} {ll : List Key} (h : Bss S w v ll) (hl : ll.length ≤ 1048576) (hs : ∀ l ∈ ll, l.length ≤ 1048576) :
    Calls Try.prog 7 #[v] w fun e w' => ∃ ao c, e = .returned (.slice ao ll.length c) ∧ Bss Any w' (.slice ao ll.length c) ll ∧ Below w.heap.size w w' :=
  (cloneAll_any h hl hs).mono fun e w' ⟨ao, c, he, h1, h2⟩ => ⟨ao, c, he, h1.top, h2⟩
theorem insert_top {w : World} {v u : Value} {x : List Key} {k : Key} (hx : Bss Any w v x) (hk : Bys Any w u k) (hxm : x.length ≤ 1048576) :
    Calls Try.prog 9 #[v, u] w fun e w' => ∃ ao c, e = .returned (.tuple #[.slice ao (ins x k).length c, .bool (ok x k)]) ∧ Bss Any w' (.slice ao (ins x k).length c) (ins x k) ∧ Below w.heap.size w w' :=
  (insert_any hx hk hxm).mono fun e w' ⟨ao, c, he, h1, h2⟩ => ⟨ao, c, he, h1.top, h2⟩
theorem split_top {w : World} {ao : Option Addr} {c : Nat} {u : Value} {x : List Key} {k : Key} (hx : Bss Any w (.slice ao x.length c) x) (hk : Bys Any w u k) (hxm : x.length ≤ 1048576) (hkm : k.length ≤ 1048576) (hs : Sorted x) :
    Calls Try.prog 11 #[.agg #[.slice ao x.length c], u] w fun e w' => ∃ ao' c', e = .returned (.tuple #[.agg #[.slice ao' (ins x k).length c'], .bool (ok x k)]) ∧ Bss Any w' (.slice ao' (ins x k).length c') (ins x k) ∧ Below w.heap.size w w' :=
  (split_any hx hk hxm hkm hs).mono fun e w' ⟨ao, c, he, h1, h2⟩ => ⟨ao, c, he, h1.top, h2⟩
theorem cell_below {w w' : World} {a : Addr} {v : Value} (h : w.cell? a = some v) (hb : Below w.heap.size w w') : w'.cell? a = some v := (hb.cell (World.block_lt_of_cell? _ _ h)).trans h
/-- a world in which all that lay in W lies as it lay -/
structure Kin (W : World) where
  w : World
  h : Below W.heap.size W w
theorem Kin.bss {W : World} (s : Kin W) {S : Nat → Prop} {v : Value} {l : List Key} (h : Bss S W v l) : Bss S s.w v l := h.below s.h
theorem Kin.bys {W : World} (s : Kin W) {S : Nat → Prop} {v : Value} {l : Key} (h : Bys S W v l) : Bys S s.w v l := h.below s.h
theorem Kin.cell {W : World} {a : Addr} {v : Value} (h : W.cell? a = some v) (s : Kin W) : s.w.cell? a = some v := cell_below h s.h
theorem kin_of {P : Program} {f : FuncId} {args : Array Value} {W : World} {s : Kin W} {v : Value} (h : Calls P f args s.w fun e w' => e = .returned v ∧ Below s.w.heap.size s.w w') :
    Calls P f args s.w fun e w'' => e = .returned v ∧ ∃ s' : Kin W, w'' = s'.w :=
  h.mono fun _ w' ⟨he, hb⟩ => ⟨he, ⟨w', s.h.trans (hb.mono s.h.size)⟩, rfl⟩
/-- A REGION THAT DRAWS, ITS OPERATIONS AND CALLEES WRITE TO NOTHING THAT WAS THERE: one walk serves every order -/
theorem wp_region_kin {P : Program} {id : Nat} {Q : Exit → Act → World → Prop} {a : Act} {w : World} {l : List Oper} (hm : P.follows .mixedOrders = true) (hB : Region.lexB .any l.toArray = true)
    (h : wpQuiet P l.toArray (fun w' => ∃ s : Kin w, w' = s.w) (fun a' => ∀ w', (∃ s : Kin w, w' = s.w) → Q .normal a' w') l a) : (Code.region id l.toArray true).wp P Q a w :=
  wp_region_quiet (C := fun w' => ∃ s : Kin w, w' = s.w) hm hB ⟨⟨_, (Below.refl _ w).drew⟩, rfl⟩ h
theorem eqAll_same {S T : Nat → Prop} {w : World} {v u : Value} {x y : List Key} (hx : Bss S w v x) (hy : Bss T w u y) (h : x = y) :
    Calls Try.prog 12 #[v, u] w fun e w' => e = .returned (.bool true) ∧ Below w.heap.size w w' :=
  (eqAll_any hx hy).mono fun e w' ⟨he, hd⟩ => ⟨he.trans (ret_bool (by simpa using h)), hd.below _⟩
theorem length_ins_le (s : List Key) (k : Key) : (ins s k).length ≤ s.length + 1 := by
  cases h : ok s k
  · rw [ins_of_not h]; omega
  · rw [ins_of_ok h, length_insAt]; omega

set_option maxHeartbeats 16000000 in
set_option maxRecDepth 100000 in
theorem lawA (x : List Key) (a b : Key) (S T U : Nat → Prop) (so ao bo : Option Addr) (sc ac bc : Nat) (w : World) (hx : Bss S w (.slice so x.length sc) x) (ha : Bys T w (.slice ao a.length ac) a) (hb : Bys U w (.slice bo b.length bc) b) :
    Calls Try.prog 3 #[.slice so x.length sc, .slice ao a.length ac, .slice bo b.length bc] w fun e w' => e = .returned (.bool true) ∧ Below w.heap.size w w' := by
  go_enter Try.func3, Try.ntmps3
  go_wp2_with fail
  refine (bytes5_any hx ha hb).mono ?_
  rintro e w' ⟨r, rfl, hw, hr⟩
  obtain rfl : w = w' := hw.symm
  clear hw
  cases r
  · go_wp2
    go_ret
    exact ⟨rfl, Below.refl _ _⟩
  obtain ⟨hxm, hsm, hns⟩ := hr rfl
  have ham : a.length ≤ 1048576 := hns _ (by simp)
  have hbm : b.length ≤ 1048576 := hns _ (by simp)
  have HSM : Hid (Small x) := hsm
  clear hr hns hsm
  by_cases hn : 65536 < x.length
  · go_wp2
    go_ret
    exact ⟨rfl, Below.refl _ _⟩
  go_wp2_with fail
  go_loop [7, 8] (fun z i => ∃ (k : Nat) (q : Int), k ≤ x.length ∧ i = .int .i64 k ∧ z = .int .i64 q ∧ 0 ≤ q ∧ q ≤ 4194304) (fun _ i => x.length - (intOf i).toNat)
  case atStart => exact ⟨0, _, Nat.zero_le _, rfl, rfl, by omega, by omega⟩
  case round =>
    obtain ⟨k, q, hk1, rfl, rfl, hq0, hq1⟩ := hrel
    by_cases hlt : k < x.length
    · obtain ⟨so', sc', e1, _, _, hxc⟩ := id hx
      cases e1
      obtain ⟨bb, oo, rfl, _, hxc⟩ := hxc (fun e => by subst e; simp at hlt)
      obtain ⟨u, hu, bu⟩ := hxc k hlt
      obtain ⟨a', c', rfl, hlm, _⟩ := bu
      have hl2 := HSM.out _ (List.getElem_mem hlt)
      have b1 : (k : Int) < (x.length : Int) := by omega
      by_cases hq : q ≤ 1048576
      · go_wp2
        go_round
        case rel => exact ⟨k + 1, _, by omega, by go_num, rfl, by omega, by omega⟩
        case measure => simp [intOf]; omega
      · go_wp2
        go_ret
        exact ⟨rfl, Below.refl _ _⟩
    · by_cases hq : q ≤ 1048576
      · go_wp2_with fail
        refine (valid_any hx).mono ?_
        rintro e w1 ⟨r, rfl, hr, hd⟩
        have hbW : Below w.heap.size w w1 := hd.below _
        replace hx := hd.bss hx
        replace ha := hd.bys ha
        replace hb := hd.bys hb
        cases r
        · go_wp2
          go_ret
          exact ⟨rfl, hbW⟩
        have hvld := (hr.1 rfl).2
        have HV : Hid (Sorted x) := hvld
        have hn2 : x.length ≤ 65536 := by omega
        have hla := length_ins_le x a
        have hlb := length_ins_le x b
        have hlab := length_ins_le (ins x a) b
        have hlba := length_ins_le (ins x b) a
        clear hr hd hvld hk1 hlt hq hq0 hq1 hn
        go_wp2_with fail
        refine (cloneAll_top hx hxm HSM.out).mono ?_
        rintro e w2 ⟨so1, sc1, rfl, hs, hbn⟩
        replace hx := hx.below hbn
        replace ha := ha.below hbn
        replace hb := hb.below hbn
        have hbX : Below w.heap.size w w2 := hbW.trans (hbn.mono hbW.size)
        clear hbW hbn
        have hbW := hbX
        clear hbX
        clear hx
        go_wp2_with fail
        refine (clone_top ha ham).mono ?_
        rintro e w3 ⟨ao1, ac1, rfl, ha1, hbn⟩
        replace ha := ha.below hbn
        replace hb := hb.below hbn
        replace hs := hs.below hbn
        have hbX : Below w.heap.size w w3 := hbW.trans (hbn.mono hbW.size)
        clear hbW hbn
        have hbW := hbX
        clear hbX
        clear ha
        go_wp2_with fail
        refine (clone_top hb hbm).mono ?_
        rintro e w4 ⟨bo1, bc1, rfl, hb1, hbn⟩
        replace hb := hb.below hbn
        replace hs := hs.below hbn
        replace ha1 := ha1.below hbn
        have hbX : Below w.heap.size w w4 := hbW.trans (hbn.mono hbW.size)
        clear hbW hbn
        have hbW := hbX
        clear hbX
        clear hb
        go_wp2_with fail
        refine (cloneAll_top hs hxm HSM.out).mono ?_
        rintro e w5 ⟨oo, oc, rfl, ho, hbn⟩
        replace hs := hs.below hbn
        replace ha1 := ha1.below hbn
        replace hb1 := hb1.below hbn
        have hbX : Below w.heap.size w w5 := hbW.trans (hbn.mono hbW.size)
        clear hbW hbn
        have hbW := hbX
        clear hbX
        go_wp2_with fail
        refine (clone_top ha1 ham).mono ?_
        rintro e w6 ⟨ao2, ac2, rfl, ha2, hbn⟩
        replace hs := hs.below hbn
        replace ha1 := ha1.below hbn
        replace hb1 := hb1.below hbn
        replace ho := ho.below hbn
        have hbX : Below w.heap.size w w6 := hbW.trans (hbn.mono hbW.size)
        clear hbW hbn
        have hbW := hbX
        clear hbX
        go_wp2_with fail
        refine (clone_top hb1 hbm).mono ?_
        rintro e w7 ⟨bo2, bc2, rfl, hb2, hbn⟩
        replace hs := hs.below hbn
        replace ha1 := ha1.below hbn
        replace hb1 := hb1.below hbn
        replace ho := ho.below hbn
        replace ha2 := ha2.below hbn
        have hbX : Below w.heap.size w w7 := hbW.trans (hbn.mono hbW.size)
        clear hbW hbn
        have hbW := hbX
        clear hbX
        go_wp2_with fail
        refine (insert_top ho ha2 hxm).mono ?_
        rintro e w8 ⟨iA, cA, rfl, hA, hbn⟩
        replace hs := hs.below hbn
        replace ha1 := ha1.below hbn
        replace hb1 := hb1.below hbn
        replace ho := ho.below hbn
        replace ha2 := ha2.below hbn
        replace hb2 := hb2.below hbn
        have hbX : Below w.heap.size w w8 := hbW.trans (hbn.mono hbW.size)
        clear hbW hbn
        have hbW := hbX
        clear hbX
        go_wp2_with fail
        refine (insert_top hA hb2 (by omega)).mono ?_
        rintro e w9 ⟨iAB, cAB, rfl, hAB, hbn⟩
        replace hs := hs.below hbn
        replace ha1 := ha1.below hbn
        replace hb1 := hb1.below hbn
        replace ho := ho.below hbn
        replace ha2 := ha2.below hbn
        replace hb2 := hb2.below hbn
        replace hA := hA.below hbn
        have hbX : Below w.heap.size w w9 := hbW.trans (hbn.mono hbW.size)
        clear hbW hbn
        have hbW := hbX
        clear hbX
        go_wp2_with fail
        refine (insert_top ho hb2 hxm).mono ?_
        rintro e w10 ⟨iB, cB, rfl, hB, hbn⟩
        replace hs := hs.below hbn
        replace ha1 := ha1.below hbn
        replace hb1 := hb1.below hbn
        replace ho := ho.below hbn
        replace ha2 := ha2.below hbn
        replace hb2 := hb2.below hbn
        replace hA := hA.below hbn
        replace hAB := hAB.below hbn
        have hbX : Below w.heap.size w w10 := hbW.trans (hbn.mono hbW.size)
        clear hbW hbn
        have hbW := hbX
        clear hbX
        go_wp2_with fail
        refine (insert_top hB ha2 (by omega)).mono ?_
        rintro e w11 ⟨iBA, cBA, rfl, hBA, hbn⟩
        replace hs := hs.below hbn
        replace ha1 := ha1.below hbn
        replace hb1 := hb1.below hbn
        replace ho := ho.below hbn
        replace ha2 := ha2.below hbn
        replace hb2 := hb2.below hbn
        replace hA := hA.below hbn
        replace hAB := hAB.below hbn
        replace hB := hB.below hbn
        have hbX : Below w.heap.size w w11 := hbW.trans (hbn.mono hbW.size)
        clear hbW hbn
        have hbW := hbX
        clear hbX
        go_wp2_with fail
        refine (newMap_any so1 x.length sc1 _).mono ?_
        rintro e w12 ⟨rfl, hbn⟩
        replace hs := hs.below hbn
        replace ha1 := ha1.below hbn
        replace hb1 := hb1.below hbn
        replace ho := ho.below hbn
        replace ha2 := ha2.below hbn
        replace hb2 := hb2.below hbn
        replace hA := hA.below hbn
        replace hAB := hAB.below hbn
        replace hB := hB.below hbn
        replace hBA := hBA.below hbn
        have hbX : Below w.heap.size w w12 := hbW.trans (hbn.mono hbW.size)
        clear hbW hbn
        have hbW := hbX
        clear hbX
        go_wp2_with fail
        obtain ⟨w13, hwM⟩ : ∃ wM, wM = w12.alloc (.cells #[.slice so1 x.length sc1] 31) := ⟨_, rfl⟩
        rw [← hwM]
        have hbn : Below w12.heap.size w12 w13 := by rw [hwM]; exact (Below.refl _ _).alloc (Nat.le_refl _) _
        have c20 : w13.cell? ⟨w12.heap.size, 0, none⟩ = some (.slice so1 x.length sc1) := by rw [hwM]; simp
        clear hwM
        replace hs := hs.below hbn
        replace ha1 := ha1.below hbn
        replace hb1 := hb1.below hbn
        replace ho := ho.below hbn
        replace ha2 := ha2.below hbn
        replace hb2 := hb2.below hbn
        replace hA := hA.below hbn
        replace hAB := hAB.below hbn
        replace hB := hB.below hbn
        replace hBA := hBA.below hbn
        have hbX : Below w.heap.size w w13 := hbW.trans (hbn.mono hbW.size)
        clear hbW hbn
        have hbW := hbX
        clear hbX
        refine (split_top hs ha1 hxm ham HV.out).mono ?_
        rintro e w14 ⟨jA, kA, rfl, hmA, hbn⟩
        replace hs := hs.below hbn
        replace ha1 := ha1.below hbn
        replace hb1 := hb1.below hbn
        replace ho := ho.below hbn
        replace ha2 := ha2.below hbn
        replace hb2 := hb2.below hbn
        replace hA := hA.below hbn
        replace hAB := hAB.below hbn
        replace hB := hB.below hbn
        replace hBA := hBA.below hbn
        replace c20 := cell_below c20 hbn
        have hbX : Below w.heap.size w w14 := hbW.trans (hbn.mono hbW.size)
        clear hbW hbn
        have hbW := hbX
        clear hbX
        have c20' : ∀ o, (w14.alloc o).cell? ⟨w12.heap.size, 0, none⟩ = some (.slice so1 x.length sc1) := fun o => cell_below c20 ((Below.refl _ _).alloc (Nat.le_refl _) _)
        go_wp2_with fail
        clear c20'
        obtain ⟨w15, hwM⟩ : ∃ wM, wM = w14.alloc (.cells #[.slice jA (ins x a).length kA] 31) := ⟨_, rfl⟩
        rw [← hwM]
        have hbn : Below w14.heap.size w14 w15 := by rw [hwM]; exact (Below.refl _ _).alloc (Nat.le_refl _) _
        have c21 : w15.cell? ⟨w14.heap.size, 0, none⟩ = some (.slice jA (ins x a).length kA) := by rw [hwM]; simp
        clear hwM
        replace hs := hs.below hbn
        replace ha1 := ha1.below hbn
        replace hb1 := hb1.below hbn
        replace ho := ho.below hbn
        replace ha2 := ha2.below hbn
        replace hb2 := hb2.below hbn
        replace hA := hA.below hbn
        replace hAB := hAB.below hbn
        replace hB := hB.below hbn
        replace hBA := hBA.below hbn
        replace hmA := hmA.below hbn
        replace c20 := cell_below c20 hbn
        have hbX : Below w.heap.size w w15 := hbW.trans (hbn.mono hbW.size)
        clear hbW hbn
        have hbW := hbX
        clear hbX
        refine (split_top hmA hb1 (by omega) hbm (sorted_ins a HV.out)).mono ?_
        rintro e w16 ⟨jAB, kAB, rfl, hmAB, hbn⟩
        replace hs := hs.below hbn
        replace ha1 := ha1.below hbn
        replace hb1 := hb1.below hbn
        replace ho := ho.below hbn
        replace ha2 := ha2.below hbn
        replace hb2 := hb2.below hbn
        replace hA := hA.below hbn
        replace hAB := hAB.below hbn
        replace hB := hB.below hbn
        replace hBA := hBA.below hbn
        replace hmA := hmA.below hbn
        replace c20 := cell_below c20 hbn
        replace c21 := cell_below c21 hbn
        have hbX : Below w.heap.size w w16 := hbW.trans (hbn.mono hbW.size)
        clear hbW hbn
        have hbW := hbX
        clear hbX
        have c20' : ∀ o, (w16.alloc o).cell? ⟨w12.heap.size, 0, none⟩ = some (.slice so1 x.length sc1) := fun o => cell_below c20 ((Below.refl _ _).alloc (Nat.le_refl _) _)
        have c21' : ∀ o, (w16.alloc o).cell? ⟨w14.heap.size, 0, none⟩ = some (.slice jA (ins x a).length kA) := fun o => cell_below c21 ((Below.refl _ _).alloc (Nat.le_refl _) _)
        go_wp2_with fail
        clear c20'
        clear c21'
        obtain ⟨w17, hwM⟩ : ∃ wM, wM = w16.alloc (.cells #[.slice jAB (ins (ins x a) b).length kAB] 31) := ⟨_, rfl⟩
        rw [← hwM]
        have hbn : Below w16.heap.size w16 w17 := by rw [hwM]; exact (Below.refl _ _).alloc (Nat.le_refl _) _
        have c23 : w17.cell? ⟨w16.heap.size, 0, none⟩ = some (.slice jAB (ins (ins x a) b).length kAB) := by rw [hwM]; simp
        clear hwM
        replace hs := hs.below hbn
        replace ha1 := ha1.below hbn
        replace hb1 := hb1.below hbn
        replace ho := ho.below hbn
        replace ha2 := ha2.below hbn
        replace hb2 := hb2.below hbn
        replace hA := hA.below hbn
        replace hAB := hAB.below hbn
        replace hB := hB.below hbn
        replace hBA := hBA.below hbn
        replace hmA := hmA.below hbn
        replace hmAB := hmAB.below hbn
        replace c20 := cell_below c20 hbn
        replace c21 := cell_below c21 hbn
        have hbX : Below w.heap.size w w17 := hbW.trans (hbn.mono hbW.size)
        clear hbW hbn
        have hbW := hbX
        clear hbX
        refine (split_top hs hb1 hxm hbm HV.out).mono ?_
        rintro e w18 ⟨jB, kB, rfl, hmB, hbn⟩
        replace hs := hs.below hbn
        replace ha1 := ha1.below hbn
        replace hb1 := hb1.below hbn
        replace ho := ho.below hbn
        replace ha2 := ha2.below hbn
        replace hb2 := hb2.below hbn
        replace hA := hA.below hbn
        replace hAB := hAB.below hbn
        replace hB := hB.below hbn
        replace hBA := hBA.below hbn
        replace hmA := hmA.below hbn
        replace hmAB := hmAB.below hbn
        replace c20 := cell_below c20 hbn
        replace c21 := cell_below c21 hbn
        replace c23 := cell_below c23 hbn
        have hbX : Below w.heap.size w w18 := hbW.trans (hbn.mono hbW.size)
        clear hbW hbn
        have hbW := hbX
        clear hbX
        have c20' : ∀ o, (w18.alloc o).cell? ⟨w12.heap.size, 0, none⟩ = some (.slice so1 x.length sc1) := fun o => cell_below c20 ((Below.refl _ _).alloc (Nat.le_refl _) _)
        have c21' : ∀ o, (w18.alloc o).cell? ⟨w14.heap.size, 0, none⟩ = some (.slice jA (ins x a).length kA) := fun o => cell_below c21 ((Below.refl _ _).alloc (Nat.le_refl _) _)
        have c23' : ∀ o, (w18.alloc o).cell? ⟨w16.heap.size, 0, none⟩ = some (.slice jAB (ins (ins x a) b).length kAB) := fun o => cell_below c23 ((Below.refl _ _).alloc (Nat.le_refl _) _)
        go_wp2_with fail
        clear c20'
        clear c21'
        clear c23'
        obtain ⟨w19, hwM⟩ : ∃ wM, wM = w18.alloc (.cells #[.slice jB (ins x b).length kB] 31) := ⟨_, rfl⟩
        rw [← hwM]
        have hbn : Below w18.heap.size w18 w19 := by rw [hwM]; exact (Below.refl _ _).alloc (Nat.le_refl _) _
        have c25 : w19.cell? ⟨w18.heap.size, 0, none⟩ = some (.slice jB (ins x b).length kB) := by rw [hwM]; simp
        clear hwM
        replace hs := hs.below hbn
        replace ha1 := ha1.below hbn
        replace hb1 := hb1.below hbn
        replace ho := ho.below hbn
        replace ha2 := ha2.below hbn
        replace hb2 := hb2.below hbn
        replace hA := hA.below hbn
        replace hAB := hAB.below hbn
        replace hB := hB.below hbn
        replace hBA := hBA.below hbn
        replace hmA := hmA.below hbn
        replace hmAB := hmAB.below hbn
        replace hmB := hmB.below hbn
        replace c20 := cell_below c20 hbn
        replace c21 := cell_below c21 hbn
        replace c23 := cell_below c23 hbn
        have hbX : Below w.heap.size w w19 := hbW.trans (hbn.mono hbW.size)
        clear hbW hbn
        have hbW := hbX
        clear hbX
        refine (split_top hmB ha1 (by omega) ham (sorted_ins b HV.out)).mono ?_
        rintro e w20 ⟨jBA, kBA, rfl, hmBA, hbn⟩
        replace hs := hs.below hbn
        replace ha1 := ha1.below hbn
        replace hb1 := hb1.below hbn
        replace ho := ho.below hbn
        replace ha2 := ha2.below hbn
        replace hb2 := hb2.below hbn
        replace hA := hA.below hbn
        replace hAB := hAB.below hbn
        replace hB := hB.below hbn
        replace hBA := hBA.below hbn
        replace hmA := hmA.below hbn
        replace hmAB := hmAB.below hbn
        replace hmB := hmB.below hbn
        replace c20 := cell_below c20 hbn
        replace c21 := cell_below c21 hbn
        replace c23 := cell_below c23 hbn
        replace c25 := cell_below c25 hbn
        have hbX : Below w.heap.size w w20 := hbW.trans (hbn.mono hbW.size)
        clear hbW hbn
        have hbW := hbX
        clear hbX
        have c20' : ∀ o, (w20.alloc o).cell? ⟨w12.heap.size, 0, none⟩ = some (.slice so1 x.length sc1) := fun o => cell_below c20 ((Below.refl _ _).alloc (Nat.le_refl _) _)
        have c21' : ∀ o, (w20.alloc o).cell? ⟨w14.heap.size, 0, none⟩ = some (.slice jA (ins x a).length kA) := fun o => cell_below c21 ((Below.refl _ _).alloc (Nat.le_refl _) _)
        have c23' : ∀ o, (w20.alloc o).cell? ⟨w16.heap.size, 0, none⟩ = some (.slice jAB (ins (ins x a) b).length kAB) := fun o => cell_below c23 ((Below.refl _ _).alloc (Nat.le_refl _) _)
        have c25' : ∀ o, (w20.alloc o).cell? ⟨w18.heap.size, 0, none⟩ = some (.slice jB (ins x b).length kB) := fun o => cell_below c25 ((Below.refl _ _).alloc (Nat.le_refl _) _)
        go_wp2_with fail
        clear c20'
        clear c21'
        clear c23'
        clear c25'
        obtain ⟨w21, hwM⟩ : ∃ wM, wM = w20.alloc (.cells #[.slice jBA (ins (ins x b) a).length kBA] 31) := ⟨_, rfl⟩
        rw [← hwM]
        have hbn : Below w20.heap.size w20 w21 := by rw [hwM]; exact (Below.refl _ _).alloc (Nat.le_refl _) _
        have c27 : w21.cell? ⟨w20.heap.size, 0, none⟩ = some (.slice jBA (ins (ins x b) a).length kBA) := by rw [hwM]; simp
        clear hwM
        replace hs := hs.below hbn
        replace ha1 := ha1.below hbn
        replace hb1 := hb1.below hbn
        replace ho := ho.below hbn
        replace ha2 := ha2.below hbn
        replace hb2 := hb2.below hbn
        replace hA := hA.below hbn
        replace hAB := hAB.below hbn
        replace hB := hB.below hbn
        replace hBA := hBA.below hbn
        replace hmA := hmA.below hbn
        replace hmAB := hmAB.below hbn
        replace hmB := hmB.below hbn
        replace hmBA := hmBA.below hbn
        replace c20 := cell_below c20 hbn
        replace c21 := cell_below c21 hbn
        replace c23 := cell_below c23 hbn
        replace c25 := cell_below c25 hbn
        have hbX : Below w.heap.size w w21 := hbW.trans (hbn.mono hbW.size)
        clear hbW hbn
        have hbW := hbX
        clear hbX
        have kc20 : ∀ s : Kin w21, s.w.cell? ⟨w12.heap.size, 0, none⟩ = some (.slice so1 x.length sc1) := Kin.cell c20
        have kc21 : ∀ s : Kin w21, s.w.cell? ⟨w14.heap.size, 0, none⟩ = some (.slice jA (ins x a).length kA) := Kin.cell c21
        have kc23 : ∀ s : Kin w21, s.w.cell? ⟨w16.heap.size, 0, none⟩ = some (.slice jAB (ins (ins x a) b).length kAB) := Kin.cell c23
        have kc25 : ∀ s : Kin w21, s.w.cell? ⟨w18.heap.size, 0, none⟩ = some (.slice jB (ins x b).length kB) := Kin.cell c25
        have kc27 : ∀ s : Kin w21, s.w.cell? ⟨w20.heap.size, 0, none⟩ = some (.slice jBA (ins (ins x b) a).length kBA) := Kin.cell c27
        have hcomm : ins (ins x a) b = ins (ins x b) a := ins_comm a b HV.out
        have HC : Hid (ins (ins x a) b = ins (ins x b) a) := hcomm
        clear hcomm c20 c21 c23 c25 c27 ha1 hb1 ha2 hb2
        have hne : Nonempty (Kin w21) := ⟨⟨w21, Below.refl _ _⟩⟩
        refine wp_region_kin (by kernel_rfl) (by kernel_rfl) ?_
        repeat (go_big_quiet_step (first | (go_at_call 13; exact kin_of (splits_any _ _ _ _)) | (go_at_call_of 12 (Value.slice jA (ins x a).length kA); go_at_call_of 12 (Value.slice iA (ins x a).length cA); exact kin_of (eqAll_same (Kin.bss _ hmA) (Kin.bss _ hA) rfl)) | (go_at_call_of 12 (Value.slice jAB (ins (ins x a) b).length kAB); go_at_call_of 12 (Value.slice iAB (ins (ins x a) b).length cAB); exact kin_of (eqAll_same (Kin.bss _ hmAB) (Kin.bss _ hAB) rfl)) | (go_at_call_of 12 (Value.slice jB (ins x b).length kB); go_at_call_of 12 (Value.slice iB (ins x b).length cB); exact kin_of (eqAll_same (Kin.bss _ hmB) (Kin.bss _ hB) rfl)) | (go_at_call_of 12 (Value.slice jBA (ins (ins x b) a).length kBA); go_at_call_of 12 (Value.slice iBA (ins (ins x b) a).length cBA); exact kin_of (eqAll_same (Kin.bss _ hmBA) (Kin.bss _ hBA) rfl)) | (go_at_call_of 12 (Value.slice jAB (ins (ins x a) b).length kAB); go_at_call_of 12 (Value.slice jBA (ins (ins x b) a).length kBA); exact kin_of (eqAll_same (Kin.bss _ hmAB) (Kin.bss _ hmBA) HC.out)) | (go_at_call_of 12 (Value.slice so1 x.length sc1); go_at_call_of 12 (Value.slice oo x.length oc); exact kin_of (eqAll_same (Kin.bss _ hs) (Kin.bss _ ho) rfl))))
        refine wpQuiet_nil ?_
        intro w' hw'
        obtain ⟨s, rfl⟩ := hw'
        go_wp2
        go_ret
        exact ⟨rfl, hbW.trans (s.h.mono hbW.size)⟩
      · go_wp2
        go_ret
        exact ⟨rfl, Below.refl _ _⟩
end Go.Proofs.Qxb6627850a
