/-
  SEAT b6627850a: the walks of the functions that only read: zzShB1EqAll, zzShB1Has, zzShB1Valid.
-/
import Derived.Test.Qxb6627850aCmp
namespace Go.Proofs.Qxb6627850a
open Go.RowKit Go.Lib
set_option linter.unusedVariables false

theorem ret_bool {a b : Bool} (h : a = b) : Ending.returned (.bool a) = .returned (.bool b) := by rw [h]

theorem eq_take_succ {x y : List Key} {k : Nat} (h1 : k < x.length) (h2 : k < y.length) (h : x.take k = y.take k) (he : x[k] = y[k]) : x.take (k + 1) = y.take (k + 1) := by
  rw [List.take_succ_eq_append_getElem h1, List.take_succ_eq_append_getElem h2, h, he]

set_option maxHeartbeats 400000 in
theorem eqAll_full (x y : List Key) (S T : Nat → Prop) (bx ox cx b o cy : Nat) (w : World) (hl : x.length = y.length) (hxm : x.length ≤ maxLen)
    (hx : ∀ i (h : i < x.length), ∃ u, w.cell? ⟨bx, ox + i, none⟩ = some u ∧ Bys S w u x[i]) (hy : ∀ i (h : i < y.length), ∃ u, w.cell? ⟨b, o + i, none⟩ = some u ∧ Bys T w u y[i]) :
    Calls Try.prog 12 #[.slice (some ⟨bx, ox, none⟩) x.length cx, .slice (some ⟨b, o, none⟩) y.length cy] w fun e w' => e = .returned (.bool (x == y)) ∧ ∃ n, w' = w.drewN n := by
  unfold maxLen at hxm
  have HL : Hid (x.length = y.length) := hl
  have hl2 : ((x.length : Int) != (y.length : Int)) = false := by simp [hl]
  clear hl
  go_enter Try.func12, Try.ntmps12
  go_wp2
  go_loopw [5] (fun i wr => ∃ k : Nat, k ≤ x.length ∧ i = .int .i64 k ∧ Dr w wr ∧ Hid (x.take k = y.take k)) (fun i _ => x.length - (intOf i).toNat)
  case atStart => exact ⟨0, Nat.zero_le _, rfl, Dr.refl _, rfl⟩
  case round =>
    obtain ⟨k, hk1, rfl, hdr, HD⟩ := hrel
    by_cases hlt : k < x.length
    · have hlt2 : k < y.length := by have := HL.out; omega
      obtain ⟨u, hu, bu⟩ := hx k hlt
      obtain ⟨v, hv, bv⟩ := hy k hlt2
      rw [← hdr.cell] at hu hv
      replace bu := hdr.bys bu
      replace bv := hdr.bys bv
      have b1 : (k : Int) < (x.length : Int) := by omega
      have b2 : (k : Int) < (y.length : Int) := by omega
      go_wp2
      go_quiet ((go_at_call 17; exact Calls.quiet_of (cmp_any (bu.drewN _) (bv.drewN _))))
      go_wp2
      · go_ret
        have hne : (compareBytes x[k] y[k] != 0) = true := by assumption
        refine ⟨ret_bool (Eq.symm ?_), hdr.step _⟩
        rw [beq_eq_false_iff_ne]
        intro e
        subst e
        simp [cb_self] at hne
      · go_roundw
        case rel =>
          have hne : (compareBytes x[k] y[k] != 0) = false := by assumption
          exact ⟨k + 1, by omega, by go_num, hdr.step _, eq_take_succ hlt hlt2 HD.out (cb_eq _ _ (by simpa using hne))⟩
        case measure => simp [intOf]; omega
    · go_wp2
      go_ret
      refine ⟨ret_bool ?_, hdr⟩
      have h := HD.out
      have hl := HL.out
      rw [List.take_of_length_le (by omega), List.take_of_length_le (by omega)] at h
      simp [h]

set_option maxHeartbeats 400000 in
/-- the lengths part -/
theorem eqAll_len (ao bo : Option Addr) (n m cx cy : Nat) (w : World) (h : n ≠ m) :
    Calls Try.prog 12 #[.slice ao n cx, .slice bo m cy] w fun e w' => e = .returned (.bool false) ∧ w' = w := by
  have h2 : ((n : Int) != (m : Int)) = true := by simp; omega
  go_enter Try.func12, Try.ntmps12
  go_wp2
  go_ret
  exact ⟨rfl, rfl⟩

set_option maxHeartbeats 400000 in
/-- both empty -/
theorem eqAll_nil (ao bo : Option Addr) (cx cy : Nat) (w : World) :
    Calls Try.prog 12 #[.slice ao 0 cx, .slice bo 0 cy] w fun e w' => e = .returned (.bool true) ∧ w' = w := by
  go_enter Try.func12, Try.ntmps12
  go_wp2
  refine wp_loop_rounds 1 ?_
  rw [rounds_succ]
  go_wp2
  go_ret
  exact ⟨rfl, rfl⟩

/-- zzShB1EqAll -/
theorem eqAll_any {S T : Nat → Prop} {w : World} {v u : Value} {x y : List Key} (hx : Bss S w v x) (hy : Bss T w u y) :
    Calls Try.prog 12 #[v, u] w fun e w' => e = .returned (.bool (x == y)) ∧ Dr w w' := by
  obtain ⟨ao, c, rfl, hxc, hxm, hx⟩ := hx
  obtain ⟨bo, d, rfl, hyc, hym, hy⟩ := hy
  by_cases hl : x.length = y.length
  · by_cases ex : x = []
    · subst ex
      have ey : y = [] := List.length_eq_zero_iff.1 hl.symm
      subst ey
      exact (eqAll_nil ao bo c d w).mono fun e w' ⟨he, hw⟩ => ⟨he, 0, hw⟩
    · have ey : y ≠ [] := fun h => ex (List.length_eq_zero_iff.1 (by rw [hl, h]; rfl))
      obtain ⟨bx, ox, rfl, _, hcx⟩ := hx ex
      obtain ⟨b, o, rfl, _, hcy⟩ := hy ey
      exact eqAll_full x y S T bx ox c b o d w hl (by omega) hcx hcy
  · refine (eqAll_len ao bo _ _ c d w hl).mono fun e w' ⟨he, hw⟩ => ⟨he.trans (ret_bool (Eq.symm ?_)), 0, hw⟩
    rw [beq_eq_false_iff_ne]
    intro e
    exact hl (by rw [e])

set_option maxHeartbeats 400000 in
theorem has_full (x : List Key) (k0 : Key) (S T : Nat → Prop) (bx ox cx : Nat) (kv : Value) (w : World) (hxm : x.length ≤ maxLen)
    (hx : ∀ i (h : i < x.length), ∃ u, w.cell? ⟨bx, ox + i, none⟩ = some u ∧ Bys S w u x[i]) (hk : Bys T w kv k0) :
    Calls Try.prog 15 #[.slice (some ⟨bx, ox, none⟩) x.length cx, kv] w fun e w' => e = .returned (.bool (x.contains k0)) ∧ Dr w w' := by
  unfold maxLen at hxm
  go_enter Try.func15, Try.ntmps15
  go_wp2
  go_loopw [5] (fun i wr => ∃ k : Nat, k ≤ x.length ∧ i = .int .i64 k ∧ Dr w wr ∧ Hid (k0 ∉ x.take k)) (fun i _ => x.length - (intOf i).toNat)
  case atStart => exact ⟨0, Nat.zero_le _, rfl, Dr.refl _, by simp [Hid]⟩
  case round =>
    obtain ⟨k, hk1, rfl, hdr, HD⟩ := hrel
    by_cases hlt : k < x.length
    · obtain ⟨u, hu, bu⟩ := hx k hlt
      rw [← hdr.cell] at hu
      replace bu := hdr.bys bu
      have bk := hdr.bys hk
      have b1 : (k : Int) < (x.length : Int) := by omega
      go_wp2_with (go_at_call 17; refine (cmp_any bu bk).mono ?_; rintro e w' ⟨rfl, hd2⟩)
      · go_ret
        have he : compareBytes x[k] k0 = 0 := by simpa using (by assumption : (compareBytes x[k] k0 == 0) = true)
        refine ⟨ret_bool (Eq.symm ?_), hdr.trans hd2⟩
        rw [← cb_eq _ _ he]
        simp
      · go_roundw
        case rel =>
          have hne : ¬ compareBytes x[k] k0 = 0 := by simpa using (by assumption : (compareBytes x[k] k0 == 0) = false)
          refine ⟨k + 1, by omega, by go_num, hdr.trans hd2, ?_⟩
          have := HD.out
          rw [Hid, List.take_succ_eq_append_getElem hlt]
          simp only [List.mem_append, List.mem_singleton, not_or]
          exact ⟨this, fun e => hne (by rw [e]; exact cb_self _)⟩
        case measure => simp [intOf]; omega
    · go_wp2
      go_ret
      have h := HD.out
      rw [List.take_of_length_le (by omega)] at h
      exact ⟨ret_bool (by simpa using h), hdr⟩

set_option maxHeartbeats 400000 in
theorem has_nil (ao : Option Addr) (cx : Nat) (kv : Value) (w : World) :
    Calls Try.prog 15 #[.slice ao 0 cx, kv] w fun e w' => e = .returned (.bool false) ∧ w' = w := by
  go_enter Try.func15, Try.ntmps15
  go_wp2
  refine wp_loop_rounds 1 ?_
  rw [rounds_succ]
  go_wp2
  go_ret
  exact ⟨rfl, rfl⟩

/-- zzShB1Has -/
theorem has_any {S T : Nat → Prop} {w : World} {v u : Value} {x : List Key} {k : Key} (hx : Bss S w v x) (hk : Bys T w u k) :
    Calls Try.prog 15 #[v, u] w fun e w' => e = .returned (.bool (x.contains k)) ∧ Dr w w' := by
  obtain ⟨ao, c, rfl, hxc, hxm, hx⟩ := hx
  by_cases ex : x = []
  · subst ex
    exact (has_nil ao c u w).mono fun e w' ⟨he, hw⟩ => ⟨he, 0, hw⟩
  · obtain ⟨bx, ox, rfl, _, hcx⟩ := hx ex
    exact has_full x k S T bx ox c u w (by omega) hcx hk
end Go.Proofs.Qxb6627850a
