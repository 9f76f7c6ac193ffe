/-
  SEAT b6627850a: the walk of zzShB1Subset.
-/
import Derived.Test.Qxb6627850aReads2
namespace Go.Proofs.Qxb6627850a
open Go.RowKit Go.Lib
set_option linter.unusedVariables false

/-- from place a of sub on, every key stands behind the first b keys of sup -/
def Ahead (x y : List Key) (a b : Nat) : Prop := ∀ t (h : t < x.length), a ≤ t → ∀ q (h' : q < y.length), q < b → Lt y[q] x[t]

theorem ahead_place {x y : List Key} {a b : Nat} (h : Ahead x y a b) (ha : a < x.length) (hm : x[a] ∈ y) : ∃ q, ∃ h' : q < y.length, b ≤ q ∧ y[q] = x[a] := by
  obtain ⟨q, hq, e⟩ := List.getElem_of_mem hm
  refine ⟨q, hq, Nat.le_of_not_lt fun hlt => ?_, e⟩
  have := h a ha (Nat.le_refl _) q hq hlt
  rw [e] at this
  exact lt_irrefl _ this
theorem ahead_next {x y : List Key} {a q : Nat} (hx : Sorted x) (hy : Sorted y) (ha : a < x.length) (hq : q < y.length) (e : y[q] = x[a]) : Ahead x y (a + 1) (q + 1) := by
  intro t ht hat p hp hpq
  have h1 : Lt x[a] x[t] := hx a t (by omega) ht
  by_cases ep : p = q
  · subst ep; rw [e]; exact h1
  · exact lt_trans (hy p q (by omega) hq) (e ▸ h1)

set_option maxHeartbeats 800000 in
theorem subset_full (x y : List Key) (S T : Nat → Prop) (bx ox cx b o cy : Nat) (w : World) (hxm : x.length ≤ maxLen) (hym : y.length ≤ maxLen) (hsx : Sorted x) (hsy : Sorted y) (hsub : ∀ k ∈ x, k ∈ y)
    (hx : ∀ i (h : i < x.length), ∃ u, w.cell? ⟨bx, ox + i, none⟩ = some u ∧ Bys S w u x[i]) (hy : ∀ i (h : i < y.length), ∃ u, w.cell? ⟨b, o + i, none⟩ = some u ∧ Bys T w u y[i]) :
    Calls Try.prog 16 #[.slice (some ⟨bx, ox, none⟩) x.length cx, .slice (some ⟨b, o, none⟩) y.length cy] w fun e w' => e = .returned (.bool true) ∧ Dr w w' := by
  unfold maxLen at hxm hym
  have HX : Hid (Sorted x) := hsx
  have HY : Hid (Sorted y) := hsy
  have HM : Hid (∀ k ∈ x, k ∈ y) := hsub
  clear hsx hsy hsub
  go_enter Try.func16, Try.ntmps16
  go_wp2
  go_loopw [5, 6] (fun j i wr => ∃ p k : Nat, k ≤ x.length ∧ p ≤ y.length ∧ i = .int .i64 k ∧ j = .int .i64 p ∧ Dr w wr ∧ Hid (Ahead x y k p)) (fun _ i _ => x.length - (intOf i).toNat)
  case atStart => exact ⟨0, 0, Nat.zero_le _, Nat.zero_le _, rfl, rfl, Dr.refl _, fun t _ _ q _ h => absurd h (by omega)⟩
  case round =>
    obtain ⟨p, k, hk1, hp1, rfl, rfl, hdr, HD⟩ := hrel
    obtain ⟨wo, rfl⟩ : ∃ wo : World, wo = wr := ⟨_, rfl⟩
    by_cases hlt : k < x.length
    · obtain ⟨q, hq, hpq, eq⟩ := ahead_place HD.out hlt (HM.out _ (List.getElem_mem hlt))
      have EQ : Hid (y[q] = x[k]) := eq
      clear eq
      obtain ⟨u, hu, bu⟩ := hx k hlt
      rw [← hdr.cell] at hu
      replace bu := hdr.bys bu
      have b1 : (k : Int) < (x.length : Int) := by omega
      go_wp2
      go_loopw [5] (fun j wr => ∃ p' : Nat, p' ≤ q ∧ j = .int .i64 p' ∧ Dr wo wr) (fun j _ => q - (intOf j).toNat)
      case atStart => exact ⟨p, hpq, rfl, Dr.refl _⟩
      case round =>
        obtain ⟨p', hp', rfl, hdr2⟩ := hrel
        have hp2 : p' < y.length := by omega
        obtain ⟨u2, hu2, bu2⟩ := hy p' hp2
        rw [← (hdr.trans hdr2).cell] at hu2
        replace bu2 := (hdr.trans hdr2).bys bu2
        have hu' := hu
        rw [← hdr2.cell] at hu'
        have bu' := hdr2.bys bu
        have b2 : (p' : Int) < (y.length : Int) := by omega
        have b3 : decide (p' < y.length) = true := by simp; omega
        by_cases hlq : p' < q
        · have hL : compareBytes y[p'] x[k] < 0 := by have := HY.out p' q hlq hq; rw [EQ.out] at this; exact this
          go_wp2
          go_quiet ((go_at_call 17; exact Calls.quiet_of (cmp_any (bu2.drewN _) (bu'.drewN _))))
          go_wp2
          go_roundw
          case rel => exact ⟨p' + 1, by omega, by go_num, hdr2.step _⟩
          case measure => simp [intOf]; omega
        · have hpe : p' = q := by omega
          have hz : compareBytes y[p'] x[k] = 0 := by rw [cb_zero, ← EQ.out]; simp only [hpe]
          have hL : ¬ compareBytes y[p'] x[k] < 0 := by omega
          have hN : (compareBytes y[p'] x[k] != 0) = false := by simp [hz]
          have HN : Hid (p' = q) := hpe
          clear hpe hz hlq
          go_wp2
          go_quiet ((go_at_call 17; exact Calls.quiet_of (cmp_any (bu2.drewN _) (bu'.drewN _))))
          have b4 : ¬ (y.length : Int) ≤ (p' : Int) := by omega
          have b5 : decide (y.length ≤ p') = false := by simp; omega
          generalize hw2 : wr.drewN nq = w2
          have hd3 : Dr wr w2 := ⟨nq, hw2.symm⟩
          clear hw2
          rw [← hd3.cell] at hu2 hu'
          replace bu2 := hd3.bys bu2
          replace bu' := hd3.bys bu'
          go_wp2
          go_quiet ((go_at_call 17; exact Calls.quiet_of (cmp_any (bu2.drewN _) (bu'.drewN _))))
          go_wp2
          go_roundw
          case rel =>
            refine ⟨p' + 1, k + 1, by omega, by omega, by go_num, by go_num, ((hdr.trans hdr2).trans hd3).step _, ?_⟩
            have e := HN.out
            subst e
            exact ahead_next HX.out HY.out hlt hq EQ.out
          case measure => simp [intOf]; omega
    · go_wp2
      go_ret
      exact ⟨rfl, hdr⟩

set_option maxHeartbeats 400000 in
theorem subset_nil (ao bo : Option Addr) (cx n cy : Nat) (w : World) :
    Calls Try.prog 16 #[.slice ao 0 cx, .slice bo n cy] w fun e w' => e = .returned (.bool true) ∧ w' = w := by
  go_enter Try.func16, Try.ntmps16
  go_wp2
  refine wp_loop_rounds 1 ?_
  rw [rounds_succ]
  go_wp2
  go_ret
  exact ⟨rfl, rfl⟩

/-- zzShB1Subset, of two sorted lists of which the second holds the first -/
theorem subset_any {S T : Nat → Prop} {w : World} {v u : Value} {x y : List Key} (hx : Bss S w v x) (hy : Bss T w u y) (hsx : Sorted x) (hsy : Sorted y) (hsub : ∀ k ∈ x, k ∈ y) :
    Calls Try.prog 16 #[v, u] w fun e w' => e = .returned (.bool true) ∧ Dr w w' := by
  obtain ⟨ao, c, rfl, hxc, hxm, hx⟩ := hx
  obtain ⟨bo, d, rfl, hyc, hym, hy⟩ := hy
  by_cases ex : x = []
  · subst ex
    exact (subset_nil ao bo c _ d w).mono fun e w' ⟨he, hw⟩ => ⟨he, 0, hw⟩
  · have ey : y ≠ [] := by
      obtain ⟨k, hk⟩ := List.exists_mem_of_ne_nil x ex
      exact List.ne_nil_of_mem (hsub k hk)
    obtain ⟨bx, ox, rfl, _, hcx⟩ := hx ex
    obtain ⟨b, o, rfl, _, hcy⟩ := hy ey
    exact subset_full x y S T bx ox c b o d w (by omega) (by omega) hsx hsy hsub hcx hcy
end Go.Proofs.Qxb6627850a
