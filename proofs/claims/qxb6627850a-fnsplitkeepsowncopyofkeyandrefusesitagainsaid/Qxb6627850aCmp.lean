/-
  SEAT b6627850a: what a []byte and a [][]byte hold in memory; the walk of zzShB1Cmp.
-/
import Derived.Test.Qxb6627850aChecked
import Derived.Test.Qxb6627850aPlain
import Derived.WalkKit
import Derived.WalkLawsBesides
import Derived.WalkSpells
import Derived.Deep.QuietTactic
import Derived.BigQuiet
namespace Go.Proofs.Qxb6627850a
open Go.RowKit Go.Lib
set_option linter.unusedVariables false

/-- v is a []byte that holds l; the bytes lie in a block of which S says yes. -/
def Bys (S : Nat → Prop) (w : World) (v : Value) (l : Key) : Prop :=
  ∃ ao cap, v = .slice ao l.length cap ∧ l.length ≤ maxLen ∧ (l ≠ [] → ∃ b o, ao = some ⟨b, o, none⟩ ∧ S b ∧ ∀ j (h : j < l.length), w.cell? ⟨b, o + j, none⟩ = some (.int .u8 (l[j].toNat : Int)))

/-- v is a [][]byte that holds ll; its row and all its bytes lie in blocks of which S says yes. -/
def Bss (S : Nat → Prop) (w : World) (v : Value) (ll : List Key) : Prop :=
  ∃ ao cap, v = .slice ao ll.length cap ∧ ll.length ≤ cap ∧ cap ≤ maxLen ∧ (ll ≠ [] → ∃ b o, ao = some ⟨b, o, none⟩ ∧ S b ∧ ∀ i (h : i < ll.length), ∃ x, w.cell? ⟨b, o + i, none⟩ = some x ∧ Bys S w x ll[i])

theorem Bys.drewN {S : Nat → Prop} {w : World} {v : Value} {l : Key} (h : Bys S w v l) (n : Nat) : Bys S (w.drewN n) v l := h
theorem Bss.drewN {S : Nat → Prop} {w : World} {v : Value} {l : List Key} (h : Bss S w v l) (n : Nat) : Bss S (w.drewN n) v l := h

/-- what lies in blocks that have not turned reads as it did -/
theorem Bys.kept {S : Nat → Prop} {w w' : World} {v : Value} {l : Key} (h : Bys S w v l) (hk : ∀ b, S b → b < w.heap.size → w'.heap[b]? = w.heap[b]?) : Bys S w' v l := by
  obtain ⟨ao, c, rfl, hm, h⟩ := h
  refine ⟨ao, c, rfl, hm, fun hl => ?_⟩
  obtain ⟨b, o, rfl, hS, hc⟩ := h hl
  refine ⟨b, o, rfl, hS, fun j hj => ?_⟩
  rw [World.cell?_of_block (w := w) (hk b hS (World.block_lt_of_cell? _ _ (hc j hj)))]
  exact hc j hj
theorem Bss.kept {S : Nat → Prop} {w w' : World} {v : Value} {ll : List Key} (h : Bss S w v ll) (hk : ∀ b, S b → b < w.heap.size → w'.heap[b]? = w.heap[b]?) : Bss S w' v ll := by
  obtain ⟨ao, c, rfl, hm, hm', h⟩ := h
  refine ⟨ao, c, rfl, hm, hm', fun hl => ?_⟩
  obtain ⟨b, o, rfl, hS, hc⟩ := h hl
  refine ⟨b, o, rfl, hS, fun j hj => ?_⟩
  obtain ⟨x, hx, hb⟩ := hc j hj
  refine ⟨x, ?_, hb.kept hk⟩
  rw [World.cell?_of_block (w := w) (hk b hS (World.block_lt_of_cell? _ _ hx))]
  exact hx
theorem Bys.below {S : Nat → Prop} {w w' : World} {v : Value} {l : Key} (h : Bys S w v l) (hb : Below w.heap.size w w') : Bys S w' v l := h.kept fun b _ hlt => hb.block b hlt
theorem Bss.below {S : Nat → Prop} {w w' : World} {v : Value} {l : List Key} (h : Bss S w v l) (hb : Below w.heap.size w w') : Bss S w' v l := h.kept fun b _ hlt => hb.block b hlt
theorem Bys.wide {S T : Nat → Prop} {w : World} {v : Value} {l : Key} (h : Bys S w v l) (hST : ∀ b, b < w.heap.size → S b → T b) : Bys T w v l := by
  obtain ⟨ao, c, rfl, hm, h⟩ := h
  refine ⟨ao, c, rfl, hm, fun hl => ?_⟩
  obtain ⟨b, o, rfl, hS, hc⟩ := h hl
  exact ⟨b, o, rfl, hST b (World.block_lt_of_cell? _ _ (hc 0 (List.length_pos_iff.2 hl))) hS, hc⟩
theorem Bss.wide {S T : Nat → Prop} {w : World} {v : Value} {l : List Key} (h : Bss S w v l) (hST : ∀ b, b < w.heap.size → S b → T b) : Bss T w v l := by
  obtain ⟨ao, c, rfl, hm, hm', h⟩ := h
  refine ⟨ao, c, rfl, hm, hm', fun hl => ?_⟩
  obtain ⟨b, o, rfl, hS, hc⟩ := h hl
  obtain ⟨x, hx, _⟩ := hc 0 (List.length_pos_iff.2 hl)
  refine ⟨b, o, rfl, hST b (World.block_lt_of_cell? _ _ hx) hS, fun i hi => ?_⟩
  obtain ⟨x, hx, hb⟩ := hc i hi
  exact ⟨x, hx, hb.wide hST⟩

theorem drop_at (l : Key) (k : Nat) (h : k < l.length) : l.drop k = l[k] :: l.drop (k + 1) := List.drop_eq_getElem_cons h

theorem cb_step_lt (x y : Key) (k : Nat) (hx : k < x.length) (hy : k < y.length) (h : (x[k].toNat : Int) < (y[k].toNat : Int)) : compareBytes (x.drop k) (y.drop k) = -1 := by
  rw [drop_at x k hx, drop_at y k hy]
  unfold compareBytes
  rw [if_pos (UInt8.lt_iff_toNat_lt.2 (by omega))]
theorem cb_step_gt (x y : Key) (k : Nat) (hx : k < x.length) (hy : k < y.length) (h : (y[k].toNat : Int) < (x[k].toNat : Int)) : compareBytes (x.drop k) (y.drop k) = 1 := by
  rw [drop_at x k hx, drop_at y k hy]
  unfold compareBytes
  rw [if_neg (fun hh => by have := UInt8.lt_iff_toNat_lt.1 hh; omega), if_pos (UInt8.lt_iff_toNat_lt.2 (by omega))]
theorem cb_step_eq (x y : Key) (k : Nat) (hx : k < x.length) (hy : k < y.length) (h1 : ¬ (x[k].toNat : Int) < (y[k].toNat : Int)) (h2 : ¬ (y[k].toNat : Int) < (x[k].toNat : Int)) : compareBytes (x.drop k) (y.drop k) = compareBytes (x.drop (k + 1)) (y.drop (k + 1)) := by
  rw [drop_at x k hx, drop_at y k hy]
  conv => lhs; unfold compareBytes
  rw [if_neg (fun hh => by have := UInt8.lt_iff_toNat_lt.1 hh; omega), if_neg (fun hh => by have := UInt8.lt_iff_toNat_lt.1 hh; omega)]
theorem cb_end (x y : Key) (k : Nat) (h : x.length ≤ k ∨ y.length ≤ k) (hx : k ≤ x.length) (hy : k ≤ y.length) :
    compareBytes (x.drop k) (y.drop k) = if x.length < y.length then -1 else if y.length < x.length then 1 else 0 := by
  rcases Nat.lt_trichotomy x.length y.length with h1 | h1 | h1
  · rw [if_pos h1, (show x.drop k = [] from List.drop_eq_nil_of_le (by omega)), drop_at y k (by omega)]; rfl
  · rw [if_neg (by omega), if_neg (by omega), (show x.drop k = [] from List.drop_eq_nil_of_le (by omega)), (show y.drop k = [] from List.drop_eq_nil_of_le (by omega))]; rfl
  · rw [if_neg (by omega), if_pos h1, (show y.drop k = [] from List.drop_eq_nil_of_le (by omega)), drop_at x k (by omega)]; rfl

theorem dr1 {w : World} {n m : Nat} : ∃ k, (w.drewN n).drewN m = w.drewN k := ⟨n + m, by rw [World.drewN_drewN]⟩
theorem dr2 {w : World} {n m q : Nat} : ∃ k, ((w.drewN n).drewN m).drewN q = w.drewN k := ⟨n + (m + q), by rw [World.drewN_drewN, World.drewN_drewN]⟩

/-- w' is w behind some draws -/
def Dr (w w' : World) : Prop := ∃ n, w' = w.drewN n
theorem Dr.refl (w : World) : Dr w w := ⟨0, rfl⟩
theorem Dr.step {w w' : World} (h : Dr w w') (n : Nat) : Dr w (w'.drewN n) := by obtain ⟨m, rfl⟩ := h; exact dr1
theorem Dr.trans {a b c : World} (h : Dr a b) (k : Dr b c) : Dr a c := by obtain ⟨m, rfl⟩ := k; exact h.step m
theorem Dr.cell {w w' : World} (h : Dr w w') (a : Addr) : w'.cell? a = w.cell? a := by obtain ⟨m, rfl⟩ := h; rfl
theorem Dr.heap {w w' : World} (h : Dr w w') : w'.heap = w.heap := by obtain ⟨m, rfl⟩ := h; rfl
theorem Dr.below {w w' : World} (h : Dr w w') (B : Nat) : Below B w w' := by obtain ⟨m, rfl⟩ := h; exact below_drewN (Below.refl _ _) m
theorem Dr.bys {w w' : World} (h : Dr w w') {S : Nat → Prop} {v : Value} {l : Key} (k : Bys S w v l) : Bys S w' v l := by obtain ⟨m, rfl⟩ := h; exact k
theorem Dr.bss {w w' : World} (h : Dr w w') {S : Nat → Prop} {v : Value} {l : List Key} (k : Bss S w v l) : Bss S w' v l := by obtain ⟨m, rfl⟩ := h; exact k

theorem ret_int {k : IntKind} {a b : Int} (h : a = b) : Ending.returned (.int k a) = .returned (.int k b) := by rw [h]

set_option maxHeartbeats 400000 in
/-- both not empty -/
theorem cmp_full (x y : Key) (bx ox cx by' oy cy : Nat) (w : World) (hx0 : 0 < x.length) (hy0 : 0 < y.length) (hxm : x.length ≤ maxLen) (hym : y.length ≤ maxLen)
    (hx : ∀ j (h : j < x.length), w.cell? ⟨bx, ox + j, none⟩ = some (.int .u8 (x[j].toNat : Int))) (hy : ∀ j (h : j < y.length), w.cell? ⟨by', oy + j, none⟩ = some (.int .u8 (y[j].toNat : Int))) :
    Calls Try.prog 17 #[.slice (some ⟨bx, ox, none⟩) x.length cx, .slice (some ⟨by', oy, none⟩) y.length cy] w fun e w' => e = .returned (.int .i64 (compareBytes x y)) ∧ ∃ n, w' = w.drewN n := by
  unfold maxLen at hxm hym
  go_enter Try.func17, Try.ntmps17
  go_wp2
  all_goals
    go_loopw [6] (fun i wr => ∃ k : Nat, k ≤ x.length ∧ k ≤ y.length ∧ i = .int .i64 k ∧ (∃ n, wr = w.drewN n) ∧ Hid (compareBytes x y = compareBytes (x.drop k) (y.drop k))) (fun i _ => x.length - (intOf i).toNat)
    case atStart => exact ⟨0, Nat.zero_le _, Nat.zero_le _, rfl, ⟨0, rfl⟩, rfl⟩
    case round =>
      obtain ⟨k, hk1, hk2, rfl, ⟨n, rfl⟩, HD⟩ := hrel
      by_cases hlt : k < x.length ∧ k < y.length
      · obtain ⟨hlx, hly⟩ := hlt
        have cx' := hx k hlx
        have cy' := hy k hly
        have b1 : (k : Int) < (x.length : Int) := by omega
        have b2 : (k : Int) < (y.length : Int) := by omega
        go_wp2
        go_quiet (fail)
        go_wp2
        · go_ret
          exact ⟨ret_int (by rw [HD.out, cb_step_lt x y k hlx hly (by omega)]), by first | exact dr1 | exact dr2⟩
        · go_quiet (fail)
          go_wp2
          · go_ret
            exact ⟨ret_int (by rw [HD.out, cb_step_gt x y k hlx hly (by omega)]), by first | exact dr1 | exact dr2⟩
          · go_roundw
            case rel => exact ⟨k + 1, by omega, by omega, by go_num, by first | exact ⟨_, rfl⟩ | exact dr1 | exact dr2, HD.out.trans (cb_step_eq x y k hlx hly (by omega) (by omega))⟩
            case measure => simp [intOf]; omega
      · have HE := HD.out.trans (cb_end x y k (by omega) hk1 hk2)
        have HF : Hid (compareBytes x y = if x.length < y.length then -1 else if y.length < x.length then 1 else 0) := HE
        clear HE HD
        go_wp2
        all_goals
          go_ret
          refine ⟨ret_int ?_, _, rfl⟩
          rw [HF.out]
          first | rw [if_pos (by omega)] | rw [if_neg (by omega), if_pos (by omega)] | rw [if_neg (by omega), if_neg (by omega)]

set_option maxHeartbeats 400000 in
/-- the first is empty -/
theorem cmp_empty_l (ao bo : Option Addr) (n cx cy : Nat) (w : World) (hn : n ≤ maxLen) :
    Calls Try.prog 17 #[.slice ao 0 cx, .slice bo n cy] w fun e w' => e = .returned (.int .i64 (if 0 < n then -1 else 0)) ∧ w' = w := by
  unfold maxLen at hn
  go_enter Try.func17, Try.ntmps17
  go_wp2
  refine wp_loop_rounds 1 ?_
  rw [rounds_succ]
  go_wp2
  · go_ret
    exact ⟨rfl, rfl⟩
  · go_ret
    exact ⟨rfl, rfl⟩

set_option maxHeartbeats 400000 in
/-- the second is empty, the first is not -/
theorem cmp_empty_r (ao bo : Option Addr) (n cx cy : Nat) (w : World) (hn : n ≤ maxLen) (h0 : 0 < n) :
    Calls Try.prog 17 #[.slice ao n cx, .slice bo 0 cy] w fun e w' => e = .returned (.int .i64 1) ∧ w' = w := by
  unfold maxLen at hn
  go_enter Try.func17, Try.ntmps17
  go_wp2
  refine wp_loop_rounds 1 ?_
  rw [rounds_succ]
  go_wp2
  go_ret
  exact ⟨rfl, rfl⟩

theorem cb_nil (y : Key) : compareBytes [] y = if 0 < y.length then -1 else 0 := by cases y <;> simp [compareBytes]
theorem cb_nil_r (x : Key) (h : x ≠ []) : compareBytes x [] = 1 := by cases x <;> simp_all [compareBytes]

/-- zzShB1Cmp -/
theorem cmp_any {S T : Nat → Prop} {w : World} {v u : Value} {x y : Key} (hx : Bys S w v x) (hy : Bys T w u y) :
    Calls Try.prog 17 #[v, u] w fun e w' => e = .returned (.int .i64 (compareBytes x y)) ∧ ∃ n, w' = w.drewN n := by
  obtain ⟨ao, c, rfl, hxm, hx⟩ := hx
  obtain ⟨bo, d, rfl, hym, hy⟩ := hy
  by_cases ex : x = []
  · subst ex
    refine (cmp_empty_l ao bo y.length c d w hym).mono fun e w' ⟨he, hw⟩ => ⟨?_, 0, hw⟩
    rw [he, cb_nil]
  · by_cases ey : y = []
    · subst ey
      refine (cmp_empty_r ao bo x.length c d w hxm (List.length_pos_iff.2 ex)).mono fun e w' ⟨he, hw⟩ => ⟨?_, 0, hw⟩
      rw [he, cb_nil_r x ex]
    · obtain ⟨bx, ox, rfl, _, hcx⟩ := hx ex
      obtain ⟨b, o, rfl, _, hcy⟩ := hy ey
      exact cmp_full x y bx ox c b o d w (List.length_pos_iff.2 ex) (List.length_pos_iff.2 ey) hxm hym hcx hcy
