/-
  SEAT b6627850a: the walks of zzShB1Valid, zzShB1Subset.
-/
import Derived.Test.Qxb6627850aReads
namespace Go.Proofs.Qxb6627850a
open Go.RowKit Go.Lib
set_option linter.unusedVariables false

/-- no empty key, keys strictly increasing -/
def Vld (s : List Key) : Prop := (∀ x ∈ s, x ≠ []) ∧ Sorted s
/-- .. as far as place k -/
def VldTo (s : List Key) (k : Nat) : Prop := (∀ j (h : j < s.length), j < k → s[j] ≠ []) ∧ (∀ j (h : j + 1 < s.length), j + 1 < k → Lt (s[j]'(by omega)) s[j + 1])

theorem vld_of_to {s : List Key} {k : Nat} (h : VldTo s k) (hk : s.length ≤ k) : Vld s :=
  ⟨fun x hx => by obtain ⟨i, hi, rfl⟩ := List.getElem_of_mem hx; exact h.1 i hi (by omega), sorted_of_steps s (fun i hi => h.2 i hi (by omega))⟩
theorem vldTo_succ0 {s : List Key} (h0 : 0 < s.length) (h : s[0] ≠ []) : VldTo s 1 :=
  ⟨fun j hj hk => by obtain rfl : j = 0 := by omega
                     exact h, fun j hj hk => by omega⟩
theorem vldTo_succ {s : List Key} {k : Nat} (hk : k + 1 < s.length) (h : VldTo s (k + 1)) (h1 : s[k + 1] ≠ []) (h2 : Lt (s[k]'(by omega)) s[k + 1]) : VldTo s (k + 1 + 1) := by
  refine ⟨fun j hj hjk => ?_, fun j hj hjk => ?_⟩
  · by_cases e : j = k + 1
    · subst e; exact h1
    · exact h.1 j hj (by omega)
  · by_cases e : j = k
    · subst e; exact h2
    · exact h.2 j hj (by omega)
theorem vld_not_empty {s : List Key} {k : Nat} (hk : k < s.length) (h : s[k] = []) : ¬ Vld s := fun v => v.1 _ (List.getElem_mem hk) h
theorem vld_not_lt {s : List Key} {k : Nat} (hk : k + 1 < s.length) (h : ¬ Lt (s[k]'(by omega)) s[k + 1]) : ¬ Vld s := fun v => h (v.2 k (k + 1) (by omega) hk)

theorem no_iff {p : Prop} (h : ¬ p) : (false = true) ↔ p := ⟨fun k => absurd k (by decide), fun k => absurd k h⟩
theorem yes_iff {p : Prop} (h : p) : (true = true) ↔ p := ⟨fun _ => h, fun _ => rfl⟩
theorem key_len0 {l : Key} (h : ((l.length : Int) == 0) = true) : l = [] := by
  have : (l.length : Int) = 0 := by simpa using h
  exact List.length_eq_zero_iff.1 (by omega)
theorem key_len1 {l : Key} (h : ((l.length : Int) == 0) = false) : l ≠ [] := by
  intro e; subst e; simp at h

set_option maxHeartbeats 800000 in
theorem valid_full (x : List Key) (S : Nat → Prop) (bx ox cx : Nat) (w : World) (hxm : x.length ≤ maxLen)
    (hx : ∀ i (h : i < x.length), ∃ u, w.cell? ⟨bx, ox + i, none⟩ = some u ∧ Bys S w u x[i]) :
    Calls Try.prog 6 #[.slice (some ⟨bx, ox, none⟩) x.length cx] w fun e w' => ∃ r, e = .returned (.bool r) ∧ (r = true ↔ Vld x) ∧ Dr w w' := by
  unfold maxLen at hxm
  go_enter Try.func6, Try.ntmps6
  go_wp2
  go_loopw [3] (fun i wr => ∃ k : Nat, k ≤ x.length ∧ i = .int .i64 k ∧ Dr w wr ∧ Hid (VldTo x k)) (fun i _ => x.length - (intOf i).toNat)
  case atStart => exact ⟨0, Nat.zero_le _, rfl, Dr.refl _, ⟨fun j _ h => absurd h (by omega), fun j _ h => absurd h (by omega)⟩⟩
  case round =>
    obtain ⟨k, hk1, rfl, hdr, HD⟩ := hrel
    by_cases hlt : k < x.length
    · obtain ⟨u, hu, bu⟩ := hx k hlt
      rw [← hdr.cell] at hu
      replace bu := hdr.bys bu
      obtain ⟨a, c, rfl, _, _⟩ := id bu
      have b1 : (k : Int) < (x.length : Int) := by omega
      cases e0 : ((x[k].length : Int) == 0)
      · by_cases ek : k = 0
        · have EK : Hid (k = 0) := ek
          clear ek
          have hz : decide (0 < k) = false := by have := EK.out; subst this; decide
          go_wp2
          go_quiet (fail)
          go_wp2
          go_roundw
          case rel =>
            have := EK.out
            subst this
            exact ⟨1, by omega, by go_num, hdr.step _, vldTo_succ0 hlt (key_len1 e0)⟩
          case measure => simp [intOf]; omega
        · obtain ⟨q, eq⟩ : ∃ q, k = q + 1 := ⟨k - 1, by omega⟩
          have EQ : Hid (k = q + 1) := eq
          have hq' : q < x.length := by omega
          obtain ⟨u2, hu2, bu2⟩ := hx q hq'
          rw [← hdr.cell] at hu2
          replace bu2 := hdr.bys bu2
          have hz : decide (0 < k) = true := by simp; omega
          have hz2 : (k : Int) - 1 = (q : Int) := by omega
          have b2 : (q : Int) < (x.length : Int) := by omega
          have hq : q + 1 < x.length := by omega
          have e1 : ∀ h, x[q + 1]'h = x[k] := fun h => by simp only [eq]
          have E1 : Hid (∀ h, x[q + 1]'h = x[k]) := e1
          clear eq ek e1
          go_wp2
          go_quiet ((go_at_call 17; exact Calls.quiet_of (cmp_any (bu2.drewN _) (bu.drewN _))))
          go_wp2
          · go_ret
            have hge : 0 ≤ compareBytes x[q] x[k] := by assumption
            refine ⟨false, rfl, no_iff (vld_not_lt hq ?_), hdr.step _⟩
            rw [E1.out]
            unfold Lt
            omega
          · have hge : ¬ 0 ≤ compareBytes x[q] x[k] := by first | assumption | omega
            go_roundw
            case rel =>
              refine ⟨k + 1, by omega, by go_num, hdr.step _, ?_⟩
              have e := EQ.out
              have h1 : x[q + 1] ≠ [] := by rw [E1.out]; exact key_len1 e0
              have h2 : Lt x[q] x[q + 1] := by rw [E1.out]; unfold Lt; omega
              have hv := HD.out
              rw [e] at hv
              show VldTo x (k + 1)
              rw [e]
              exact vldTo_succ hq hv h1 h2
            case measure => simp [intOf]; omega
      · go_wp2
        go_ret
        exact ⟨false, rfl, no_iff (vld_not_empty hlt (key_len0 e0)), hdr⟩
    · go_wp2
      go_ret
      exact ⟨true, rfl, yes_iff (vld_of_to HD.out (by omega)), hdr⟩

set_option maxHeartbeats 400000 in
theorem valid_nil (ao : Option Addr) (cx : Nat) (w : World) :
    Calls Try.prog 6 #[.slice ao 0 cx] w fun e w' => e = .returned (.bool true) ∧ w' = w := by
  go_enter Try.func6, Try.ntmps6
  go_wp2
  refine wp_loop_rounds 1 ?_
  rw [rounds_succ]
  go_wp2
  go_ret
  exact ⟨rfl, rfl⟩

theorem vld_nil : Vld [] := ⟨fun _ h => absurd h (by simp), fun i j _ hj => absurd hj (by simp)⟩
/-- zzShB1Valid -/
theorem valid_any {S : Nat → Prop} {w : World} {v : Value} {x : List Key} (hx : Bss S w v x) :
    Calls Try.prog 6 #[v] w fun e w' => ∃ r, e = .returned (.bool r) ∧ (r = true ↔ Vld x) ∧ Dr w w' := by
  obtain ⟨ao, c, rfl, hxc, hxm, hx⟩ := hx
  by_cases ex : x = []
  · subst ex
    exact (valid_nil ao c w).mono fun e w' ⟨he, hw⟩ => ⟨true, he, yes_iff vld_nil, 0, hw⟩
  · obtain ⟨bx, ox, rfl, _, hcx⟩ := hx ex
    exact valid_full x S bx ox c w (by omega) hcx
end Go.Proofs.Qxb6627850a
