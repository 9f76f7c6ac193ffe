/-
  SEAT b6627850a: the walks of zzShB1Clone, zzShB1CloneAll: what they hand back lies in new memory.
-/
import Derived.Test.Qxb6627850aReads2
import Derived.Deep.OwnRows
import Derived.Lib.SliceRun
namespace Go.Proofs.Qxb6627850a
open Go.RowKit Go.Lib
set_option linter.unusedVariables false

theorem Try.info5 : (Try.prog.info? 5).map (fun i => (i.zero, i.size, i.bytes)) = some (some (.int .u8 0), 1, 1) := by kernel_rfl
theorem Try.info23 : (Try.prog.info? 23).map (fun i => (i.zero, i.size, i.bytes)) = some (some (.slice none 0 0), 1, 24) := by kernel_rfl

/-- byte i of l, as a cell holds it -/
def cellB (l : Key) (i : Nat) : Value := .int .u8 ((l.getD i 0).toNat : Int)
theorem cellB_at (l : Key) (i : Nat) (h : i < l.length) : cellB l i = .int .u8 (l[i].toNat : Int) := by
  unfold cellB
  rw [List.getD_eq_getElem?_getD, List.getElem?_eq_getElem h]
  rfl
/-- the first k bytes have been written, the others are zero -/
def cellTo (l : Key) (k i : Nat) : Value := if i < k then cellB l i else .int .u8 0

theorem cellTo_int (l : Key) (k i : Nat) : ∃ x, cellTo l k i = .int .u8 x := by
  unfold cellTo cellB
  split <;> exact ⟨_, rfl⟩

/-- the copy l of a []byte: r is a slice of block g, which is a row of its own -/
def OwnB (w : World) (g : Nat) (r : Value) (l : Key) : Prop :=
  (l = [] ∧ ∃ ao c, r = .slice ao 0 c) ∨ (r = .slice (some ⟨g, 0, none⟩) l.length l.length ∧ w.rowIs g 5 l.length (cellB l))

theorem OwnB.bys {w : World} {g : Nat} {r : Value} {l : Key} (h : OwnB w g r l) (hl : l.length ≤ maxLen) {S : Nat → Prop} (hS : S g) : Bys S w r l := by
  rcases h with ⟨rfl, ao, c, rfl⟩ | ⟨rfl, h⟩
  · exact ⟨ao, c, rfl, hl, fun h => absurd rfl h⟩
  · refine ⟨_, _, rfl, hl, fun _ => ⟨g, 0, rfl, hS, fun j hj => ?_⟩⟩
    rw [Nat.zero_add, h.cell hj, cellB_at l j hj]

set_option maxHeartbeats 800000 in
theorem clone_full (l : Key) (b o c : Nat) (w : World) (h0 : 0 < l.length) (hl : l.length ≤ 1048576) (hc : ∀ j (h : j < l.length), w.cell? ⟨b, o + j, none⟩ = some (.int .u8 (l[j].toNat : Int))) :
    Calls Try.prog 8 #[.slice (some ⟨b, o, none⟩) l.length c] w fun e w' => ∃ r, e = .returned r ∧ OwnB w' w.heap.size r l ∧ Below w.heap.size w w' ∧ w'.heap.size = w.heap.size + 1 := by
  have q23 : ∀ (w : World) (a : Option Addr) (n c n' c' : Nat), (binOp .eql 23 (.slice a n c) (.slice none n' c')).run Try.prog w = .ok (.bool a.isNone) w := fun w a n c n' c' => Lib.run_eql_slice_nil w _ _ a n c n' c' Try.underlying23
  have hmk := run_make_row' (P := Try.prog) 23 5 (.int .u8 0) 1 Try.underlying23 Try.info5 rfl .i64 .i64 l.length (by omega) (by omega)
  have hb : b < w.heap.size := World.block_lt_of_cell? _ _ (hc 0 h0)
  go_enter Try.func8, Try.ntmps8
  go_wp2
  clear hmk
  go_loopw [4] (fun i wr => ∃ k : Nat, k ≤ l.length ∧ i = .int .i64 k ∧ wr.rowIs w.heap.size 5 l.length (cellTo l k) ∧ Below w.heap.size w wr ∧ wr.heap.size = w.heap.size + 1) (fun i _ => l.length - (intOf i).toNat)
  case atStart =>
    refine ⟨0, Nat.zero_le _, rfl, (World.rowIs_made w (.int .u8 0) l.length 5).congr (fun i _ => by simp [cellTo]), (Below.refl _ _).alloc (Nat.le_refl _) _, by simp⟩
  case round =>
    obtain ⟨k, hk, rfl, hrow, hbel, hsz⟩ := hrel
    by_cases hlt : k < l.length
    · have h1 : wr.cell? ⟨b, o + k, none⟩ = some (.int .u8 (l[k].toNat : Int)) := (hbel.cell (by exact hb)).trans (hc k hlt)
      obtain ⟨x, hx⟩ := cellTo_int l k k
      have h2 : wr.cell? ⟨w.heap.size, k, none⟩ = some (.int .u8 x) := by rw [hrow.cell hlt, hx]
      have h3 : wr.frozen? ⟨w.heap.size, k, none⟩ = false := hrow.frozen k
      have b1 : (k : Int) < (l.length : Int) := by omega
      have HR : Hid (wr.rowIs w.heap.size 5 l.length (cellTo l k)) := hrow
      have HZ : Hid (wr.heap.size = w.heap.size + 1) := hsz
      clear hrow hsz hx
      go_wp2
      go_roundw
      case rel =>
        refine ⟨k + 1, by omega, by go_num, (HR.out.set k _).congr (fun i hi => ?_), hbel.setCell (Nat.le_refl _) _, ?_⟩
        · unfold cellTo
          by_cases e : i = k
          · subst e; rw [if_pos rfl, if_pos (by omega), cellB_at l i hlt]
          · rw [if_neg e]
            by_cases e2 : i < k
            · rw [if_pos e2, if_pos (by omega)]
            · rw [if_neg e2, if_neg (by omega)]
        · have := HZ.out
          simpa [World.setCell] using this
      case measure => simp [intOf]; omega
    · go_wp2
      go_ret
      refine ⟨_, rfl, Or.inr ⟨rfl, hrow.congr (fun i hi => by unfold cellTo; rw [if_pos (by omega)])⟩, hbel, hsz⟩

set_option maxHeartbeats 400000 in
theorem clone_nil (c : Nat) (w : World) : Calls Try.prog 8 #[.slice none 0 c] w fun e w' => e = .returned (.slice none 0 0) ∧ w' = w := by
  have q23 : ∀ (w : World) (a : Option Addr) (n c n' c' : Nat), (binOp .eql 23 (.slice a n c) (.slice none n' c')).run Try.prog w = .ok (.bool a.isNone) w := fun w a n c n' c' => Lib.run_eql_slice_nil w _ _ a n c n' c' Try.underlying23
  go_enter Try.func8, Try.ntmps8
  go_wp2
  go_ret
  exact ⟨rfl, rfl⟩

set_option maxHeartbeats 400000 in
theorem clone_empty (a : Addr) (c : Nat) (w : World) : Calls Try.prog 8 #[.slice (some a) 0 c] w fun e w' => e = .returned (.slice (some ⟨w.heap.size, 0, none⟩) 0 0) ∧ w' = w.alloc (.cells (madeCells #[.int .u8 0] 0) 5) := by
  have q23 : ∀ (w : World) (a : Option Addr) (n c n' c' : Nat), (binOp .eql 23 (.slice a n c) (.slice none n' c')).run Try.prog w = .ok (.bool a.isNone) w := fun w a n c n' c' => Lib.run_eql_slice_nil w _ _ a n c n' c' Try.underlying23
  have hmk := run_make_row' (P := Try.prog) 23 5 (.int .u8 0) 1 Try.underlying23 Try.info5 rfl .i64 .i64 0 (by omega) (by omega)
  simp only [Int.natCast_zero] at hmk
  go_enter Try.func8, Try.ntmps8
  go_wp2
  refine wp_loop_rounds 1 ?_
  rw [rounds_succ]
  go_wp2
  go_ret
  exact ⟨rfl, rfl⟩

/-- zzShB1Clone -/
theorem clone_any {S : Nat → Prop} {w : World} {v : Value} {l : Key} (h : Bys S w v l) (hl : l.length ≤ 1048576) :
    Calls Try.prog 8 #[v] w fun e w' => ∃ r, e = .returned r ∧ OwnB w' w.heap.size r l ∧ Below w.heap.size w w' ∧ w'.heap.size ≤ w.heap.size + 1 := by
  obtain ⟨ao, c, rfl, hm, h⟩ := h
  by_cases el : l = []
  · subst el
    cases ao with
    | none => exact (clone_nil c w).mono fun e w' ⟨he, hw⟩ => ⟨_, he, Or.inl ⟨rfl, _, _, rfl⟩, hw ▸ Below.refl _ _, by rw [hw]; omega⟩
    | some a => exact (clone_empty a c w).mono fun e w' ⟨he, hw⟩ => ⟨_, he, Or.inl ⟨rfl, _, _, rfl⟩, hw ▸ (Below.refl _ _).alloc (Nat.le_refl _) _, by rw [hw]; simp⟩
  · obtain ⟨b, o, rfl, _, hc⟩ := h el
    exact (clone_full l b o c w (List.length_pos_iff.2 el) hl hc).mono fun e w' ⟨r, he, h1, h2, h3⟩ => ⟨r, he, h1, h2, by omega⟩

theorem clone_shape {S : Nat → Prop} {w : World} {v : Value} {l : Key} (h : Bys S w v l) (hl : l.length ≤ 1048576) :
    Calls Try.prog 8 #[v] w fun e w' => ∃ ao c, e = .returned (.slice ao l.length c) ∧ OwnB w' w.heap.size (.slice ao l.length c) l ∧ Below w.heap.size w w' ∧ w'.heap.size ≤ w.heap.size + 1 := by
  refine (clone_any h hl).mono fun e w' ⟨r, he, h1, h2, h3⟩ => ?_
  rcases id h1 with ⟨e1, ao, c, e2⟩ | ⟨e2, _⟩
  · subst e1; subst e2
    exact ⟨ao, c, he, h1, h2, h3⟩
  · subst e2
    exact ⟨_, _, he, h1, h2, h3⟩

/-- the first k keys have been copied into the row of block G -/
def Copied (G : Nat) (ll : List Key) (k : Nat) (f : Nat → Value) (wr : World) : Prop :=
  wr.rowIs G 23 ll.length f ∧ (∀ j (h : j < ll.length), j < k → Bys (fun b => G < b) wr (f j) ll[j]) ∧ (∀ j, k ≤ j → f j = .slice none 0 0)

theorem copied_start (w : World) (ll : List Key) : Copied w.heap.size ll 0 (fun _ => .slice none 0 0) (w.alloc (.cells (madeCells #[.slice none 0 0] ll.length) 23)) :=
  ⟨World.rowIs_made w (.slice none 0 0) ll.length 23, fun j _ h => absurd h (by omega), fun _ _ => rfl⟩

theorem copied_step {G : Nat} {ll : List Key} {k : Nat} {f : Nat → Value} {wr w1 : World} {v : Value} (h : Copied G ll k f wr) (hk : k < ll.length) (hb : Below wr.heap.size wr w1) (ho : OwnB w1 wr.heap.size v ll[k]) (hl : ll[k].length ≤ maxLen) (hG : G < wr.heap.size) :
    Copied G ll (k + 1) (fun j => if j = k then v else f j) (w1.setCell ⟨G, k, none⟩ v) := by
  obtain ⟨h1, h2, h3⟩ := h
  have hkeep : ∀ b, G < b → b < w1.heap.size → (w1.setCell ⟨G, k, none⟩ v).heap[b]? = w1.heap[b]? := fun b hb' _ => Below.heap_setCell _ _ _ _ (by show b ≠ G; omega)
  refine ⟨(h1.of_block (hb.block G hG)).set k v, fun j hj hjk => ?_, fun j hj => ?_⟩
  · by_cases e : j = k
    · subst e
      show Bys _ _ (if j = j then v else f j) _
      rw [if_pos rfl]
      exact (ho.bys hl hG).kept hkeep
    · show Bys _ _ (if j = k then v else f j) _
      rw [if_neg e]
      exact ((h2 j hj (by omega)).below hb).kept hkeep
  · show (if j = k then v else f j) = _
    rw [if_neg (by omega)]
    exact h3 j (by omega)

set_option maxHeartbeats 800000 in
theorem cloneAll_full (ll : List Key) (S : Nat → Prop) (b o c : Nat) (w : World) (h0 : 0 < ll.length) (hl : ll.length ≤ 1048576) (hs : ∀ l ∈ ll, l.length ≤ 1048576)
    (hc : ∀ i (h : i < ll.length), ∃ u, w.cell? ⟨b, o + i, none⟩ = some u ∧ Bys S w u ll[i]) :
    Calls Try.prog 7 #[.slice (some ⟨b, o, none⟩) ll.length c] w fun e w' => ∃ f, e = .returned (.slice (some ⟨w.heap.size, 0, none⟩) ll.length ll.length) ∧ Copied w.heap.size ll ll.length f w' ∧ Below w.heap.size w w' := by
  have q22 : ∀ (w : World) (a : Option Addr) (n c n' c' : Nat), (binOp .eql 22 (.slice a n c) (.slice none n' c')).run Try.prog w = .ok (.bool a.isNone) w := fun w a n c n' c' => Lib.run_eql_slice_nil w _ _ a n c n' c' Try.underlying22
  have hmk := run_make_row' (P := Try.prog) 22 23 (.slice none 0 0) 24 Try.underlying22 Try.info23 rfl .i64 .i64 ll.length (by omega) (by omega)
  go_enter Try.func7, Try.ntmps7
  go_wp2
  clear hmk
  go_loopw [4] (fun i wr => ∃ k : Nat, k ≤ ll.length ∧ i = .int .i64 k ∧ (∃ f, Copied w.heap.size ll k f wr) ∧ Below w.heap.size w wr ∧ w.heap.size < wr.heap.size) (fun i _ => ll.length - (intOf i).toNat)
  case atStart =>
    refine ⟨0, Nat.zero_le _, rfl, ⟨_, copied_start w ll⟩, (Below.refl _ _).alloc (Nat.le_refl _) _, by simp⟩
  case round =>
    obtain ⟨k, hk, rfl, ⟨f, hcp⟩, hbel, hsz⟩ := hrel
    by_cases hlt : k < ll.length
    · obtain ⟨u, hu, bu⟩ := hc k hlt
      have hub : b < w.heap.size := World.block_lt_of_cell? _ _ hu
      rw [← hbel.cell (p := ⟨b, o + k, none⟩) hub] at hu
      replace bu := bu.below hbel
      have hlk := hs _ (List.getElem_mem hlt)
      have b1 : (k : Int) < (ll.length : Int) := by omega
      have g1 : wr.cell? ⟨w.heap.size, k, none⟩ = some (.slice none 0 0) := by rw [hcp.1.cell hlt, hcp.2.2 k (Nat.le_refl _)]
      have g2 : wr.frozen? ⟨w.heap.size, k, none⟩ = false := hcp.1.frozen k
      have HC : Hid (Copied w.heap.size ll k f wr) := hcp
      clear hcp
      go_wp2_with (go_at_call 8; refine (clone_shape bu hlk).mono ?_; rintro e w1 ⟨ao, c1, rfl, hown, hb1, hz1⟩; have g3 := (hb1.cell (p := ⟨w.heap.size, k, none⟩) hsz).trans g1; have g4 := (hb1.frozen (p := ⟨w.heap.size, k, none⟩) hsz).trans g2)
      go_roundw
      case rel =>
        refine ⟨k + 1, by omega, by go_num, ⟨_, copied_step HC.out hlt hb1 hown (by unfold maxLen; omega) hsz⟩, (hbel.trans (hb1.mono (by omega))).setCell (Nat.le_refl _) _, ?_⟩
        have := hb1.size
        simp [World.setCell]
        omega
      case measure => simp [intOf]; omega
    · go_wp2
      go_ret
      obtain rfl : k = ll.length := by omega
      exact ⟨f, rfl, hcp, hbel⟩

theorem Copied.bss {G : Nat} {ll : List Key} {f : Nat → Value} {w : World} (h : Copied G ll ll.length f w) (hl : ll.length ≤ maxLen) : Bss (fun b => G ≤ b) w (.slice (some ⟨G, 0, none⟩) ll.length ll.length) ll :=
  ⟨_, _, rfl, Nat.le_refl _, hl, fun _ => ⟨G, 0, rfl, Nat.le_refl _, fun i hi => ⟨f i, by rw [Nat.zero_add]; exact h.1.cell hi, (h.2.1 i hi hi).wide (fun b _ hb => Nat.le_of_lt hb)⟩⟩⟩

set_option maxHeartbeats 400000 in
theorem cloneAll_nil (c : Nat) (w : World) : Calls Try.prog 7 #[.slice none 0 c] w fun e w' => e = .returned (.slice none 0 0) ∧ w' = w := by
  have q22 : ∀ (w : World) (a : Option Addr) (n c n' c' : Nat), (binOp .eql 22 (.slice a n c) (.slice none n' c')).run Try.prog w = .ok (.bool a.isNone) w := fun w a n c n' c' => Lib.run_eql_slice_nil w _ _ a n c n' c' Try.underlying22
  go_enter Try.func7, Try.ntmps7
  go_wp2
  go_ret
  exact ⟨rfl, rfl⟩

set_option maxHeartbeats 400000 in
theorem cloneAll_empty (a : Addr) (c : Nat) (w : World) : Calls Try.prog 7 #[.slice (some a) 0 c] w fun e w' => e = .returned (.slice (some ⟨w.heap.size, 0, none⟩) 0 0) ∧ w' = w.alloc (.cells (madeCells #[.slice none 0 0] 0) 23) := by
  have q22 : ∀ (w : World) (a : Option Addr) (n c n' c' : Nat), (binOp .eql 22 (.slice a n c) (.slice none n' c')).run Try.prog w = .ok (.bool a.isNone) w := fun w a n c n' c' => Lib.run_eql_slice_nil w _ _ a n c n' c' Try.underlying22
  have hmk := run_make_row' (P := Try.prog) 22 23 (.slice none 0 0) 24 Try.underlying22 Try.info23 rfl .i64 .i64 0 (by omega) (by omega)
  simp only [Int.natCast_zero] at hmk
  go_enter Try.func7, Try.ntmps7
  go_wp2
  refine wp_loop_rounds 1 ?_
  rw [rounds_succ]
  go_wp2
  go_ret
  exact ⟨rfl, rfl⟩

/-- zzShB1CloneAll -/
theorem cloneAll_any {S : Nat → Prop} {w : World} {v : Value} {ll : List Key} (h : Bss S w v ll) (hl : ll.length ≤ 1048576) (hs : ∀ l ∈ ll, l.length ≤ 1048576) :
    Calls Try.prog 7 #[v] w fun e w' => ∃ ao c, e = .returned (.slice ao ll.length c) ∧ Bss (fun b => w.heap.size ≤ b) w' (.slice ao ll.length c) ll ∧ Below w.heap.size w w' := by
  obtain ⟨ao, c, rfl, _, hm, h⟩ := h
  by_cases el : ll = []
  · subst el
    cases ao with
    | none => exact (cloneAll_nil c w).mono fun e w' ⟨he, hw⟩ => ⟨_, _, he, ⟨_, _, rfl, Nat.le_refl _, by decide, fun h => absurd rfl h⟩, hw ▸ Below.refl _ _⟩
    | some a => exact (cloneAll_empty a c w).mono fun e w' ⟨he, hw⟩ => ⟨_, _, he, ⟨_, _, rfl, Nat.le_refl _, by decide, fun h => absurd rfl h⟩, hw ▸ (Below.refl _ _).alloc (Nat.le_refl _) _⟩
  · obtain ⟨b, o, rfl, _, hc⟩ := h el
    exact (cloneAll_full ll S b o c w (List.length_pos_iff.2 el) hl hs hc).mono fun e w' ⟨f, he, h1, h2⟩ => ⟨_, _, he, h1.bss (by unfold maxLen; omega), h2⟩
end Go.Proofs.Qxb6627850a
