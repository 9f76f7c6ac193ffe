/-
  SEAT b6628240a: the callees of FnIsIDSpliceOneByte, walked.
-/
import Derived.Test.Qxb6628240aChecked
import Derived.WalkKit
import Derived.WalkLawsBesides
import Derived.WalkSpells
import Derived.Deep.OwnRows
import Derived.Laws.IdiomStrings
import Derived.RegionTactic
import Derived.Deep.RegionLaw
namespace Go.Proofs.Qxb6628240a
open Go.RowKit
set_option linter.unusedVariables false

/-- a digit or a lower-case letter -/
def alI (c : Int) : Bool := (decide (48 ≤ c) && decide (c ≤ 57)) || (decide (97 ≤ c) && decide (c ≤ 122))
theorem alI_yes {c : Int} (h : (48 ≤ c ∧ c ≤ 57) ∨ (97 ≤ c ∧ c ≤ 122)) : alI c = true := by unfold alI; simp; omega
theorem alI_no {c : Int} (h : ¬ ((48 ≤ c ∧ c ≤ 57) ∨ (97 ≤ c ∧ c ≤ 122))) : alI c = false := by
  cases e : alI c
  · rfl
  · unfold alI at e; simp at e; omega

set_option maxHeartbeats 400000 in
/-- zzInAlnum -/
theorem alnum_any (c : Int) (w : World) : Calls Try.prog 7 #[.int .u8 c] w fun e w' => e = .returned (.bool (alI c)) ∧ w' = w := by
  by_cases h1 : 48 ≤ c
  · by_cases h2 : c ≤ 57
    · rw [alI_yes (Or.inl ⟨h1, h2⟩)]
      go_enter Try.func7, Try.ntmps7
      go_wp2
      go_ret
      exact ⟨rfl, rfl⟩
    · by_cases h3 : 97 ≤ c
      · by_cases h4 : c ≤ 122
        · rw [alI_yes (Or.inr ⟨h3, h4⟩)]
          go_enter Try.func7, Try.ntmps7
          go_wp2
          go_ret
          exact ⟨rfl, rfl⟩
        · rw [alI_no (by omega)]
          go_enter Try.func7, Try.ntmps7
          go_wp2
          go_ret
          exact ⟨rfl, rfl⟩
      · rw [alI_no (by omega)]
        go_enter Try.func7, Try.ntmps7
        go_wp2
        go_ret
        exact ⟨rfl, rfl⟩
  · rw [alI_no (by omega)]
    have h3 : ¬ 97 ≤ c := by omega
    go_enter Try.func7, Try.ntmps7
    go_wp2
    go_ret
    exact ⟨rfl, rfl⟩

set_option maxHeartbeats 400000 in
/-- zzBytes_FnIsIDSpliceOneByte -/
theorem bytes_any (s : ByteArray) (i c : Int) (w : World) (hm : s.size ≤ maxLen) : Calls Try.prog 4 #[.string s, .int .i64 i, .int .u8 c] w fun e w' => ∃ r, e = .returned (.bool r) ∧ w' = w := by
  unfold maxLen at hm
  by_cases h : 1048576 < s.size
  · go_enter Try.func4, Try.ntmps4
    go_wp2
    go_ret
    exact ⟨false, rfl, rfl⟩
  · go_enter Try.func4, Try.ntmps4
    go_wp2
    go_ret
    exact ⟨true, rfl, rfl⟩

/-- constanttime.boolToUint8: the model's own entry -/
theorem b2u_true (w : World) : (callFunc 11 #[.bool true]).run Try.prog w = .ok (.value (.int .u8 1)) w := by kernel_rfl
theorem b2u_false (w : World) : (callFunc 11 #[.bool false]).run Try.prog w = .ok (.value (.int .u8 0)) w := by kernel_rfl

set_option maxHeartbeats 400000 in
theorem lessOrEq_yes (a b : Int) (w : World) (h : a ≤ b) : Calls Try.prog 9 #[.int .i64 a, .int .i64 b] w fun e w' => e = .returned (.int .i64 1) ∧ w' = w := by
  have hd : decide (a ≤ b) = true := by simpa using h
  have hb := b2u_true
  go_enter Try.func9, Try.ntmps9
  go_wp2
  go_ret
  exact ⟨rfl, rfl⟩
set_option maxHeartbeats 400000 in
theorem lessOrEq_no (a b : Int) (w : World) (h : ¬ a ≤ b) : Calls Try.prog 9 #[.int .i64 a, .int .i64 b] w fun e w' => e = .returned (.int .i64 0) ∧ w' = w := by
  have hd : decide (a ≤ b) = false := by simpa using h
  have hb := b2u_false
  go_enter Try.func9, Try.ntmps9
  go_wp2
  go_ret
  exact ⟨rfl, rfl⟩
set_option maxHeartbeats 1600000 in
/-- isTokenChar -/
theorem token_any (c : Int) (w : World) (hc0 : 0 ≤ c) (hc1 : c ≤ 255) : Calls Try.prog 8 #[.int .u8 c] w fun e w' => e = .returned (.int .i64 (if alI c then 1 else 0)) ∧ w' = w := by
  by_cases h1 : 48 ≤ c
  · by_cases h2 : c ≤ 57
    · have h3 : ¬ 97 ≤ c := by omega
      have h4 : c ≤ 122 := by omega
      rw [alI_yes (Or.inl ⟨h1, h2⟩), if_pos rfl]
      go_enter Try.func8, Try.ntmps8
      go_wp2_with fail
      refine (lessOrEq_yes _ _ _ (by omega)).mono ?_
      rintro e w' ⟨rfl, rfl⟩
      go_wp2_with fail
      refine (lessOrEq_yes _ _ _ (by omega)).mono ?_
      rintro e w' ⟨rfl, rfl⟩
      go_wp2_with fail
      refine (lessOrEq_no _ _ _ (by omega)).mono ?_
      rintro e w' ⟨rfl, rfl⟩
      go_wp2_with fail
      refine (lessOrEq_yes _ _ _ (by omega)).mono ?_
      rintro e w' ⟨rfl, rfl⟩
      go_wp2_with fail
      go_ret
      exact ⟨rfl, rfl⟩
    · by_cases h3 : 97 ≤ c
      · by_cases h4 : c ≤ 122
        · rw [alI_yes (Or.inr ⟨h3, h4⟩), if_pos rfl]
          go_enter Try.func8, Try.ntmps8
          go_wp2_with fail
          refine (lessOrEq_yes _ _ _ (by omega)).mono ?_
          rintro e w' ⟨rfl, rfl⟩
          go_wp2_with fail
          refine (lessOrEq_no _ _ _ (by omega)).mono ?_
          rintro e w' ⟨rfl, rfl⟩
          go_wp2_with fail
          refine (lessOrEq_yes _ _ _ (by omega)).mono ?_
          rintro e w' ⟨rfl, rfl⟩
          go_wp2_with fail
          refine (lessOrEq_yes _ _ _ (by omega)).mono ?_
          rintro e w' ⟨rfl, rfl⟩
          go_wp2_with fail
          go_ret
          exact ⟨rfl, rfl⟩
        · rw [alI_no (by omega), if_neg (by decide)]
          go_enter Try.func8, Try.ntmps8
          go_wp2_with fail
          refine (lessOrEq_yes _ _ _ (by omega)).mono ?_
          rintro e w' ⟨rfl, rfl⟩
          go_wp2_with fail
          refine (lessOrEq_no _ _ _ (by omega)).mono ?_
          rintro e w' ⟨rfl, rfl⟩
          go_wp2_with fail
          refine (lessOrEq_yes _ _ _ (by omega)).mono ?_
          rintro e w' ⟨rfl, rfl⟩
          go_wp2_with fail
          refine (lessOrEq_no _ _ _ (by omega)).mono ?_
          rintro e w' ⟨rfl, rfl⟩
          go_wp2_with fail
          go_ret
          exact ⟨rfl, rfl⟩
      · have h4 : c ≤ 122 := by omega
        rw [alI_no (by omega), if_neg (by decide)]
        go_enter Try.func8, Try.ntmps8
        go_wp2_with fail
        refine (lessOrEq_yes _ _ _ (by omega)).mono ?_
        rintro e w' ⟨rfl, rfl⟩
        go_wp2_with fail
        refine (lessOrEq_no _ _ _ (by omega)).mono ?_
        rintro e w' ⟨rfl, rfl⟩
        go_wp2_with fail
        refine (lessOrEq_no _ _ _ (by omega)).mono ?_
        rintro e w' ⟨rfl, rfl⟩
        go_wp2_with fail
        refine (lessOrEq_yes _ _ _ (by omega)).mono ?_
        rintro e w' ⟨rfl, rfl⟩
        go_wp2_with fail
        go_ret
        exact ⟨rfl, rfl⟩
  · have h2 : c ≤ 57 := by omega
    have h3 : ¬ 97 ≤ c := by omega
    have h4 : c ≤ 122 := by omega
    rw [alI_no (by omega), if_neg (by decide)]
    go_enter Try.func8, Try.ntmps8
    go_wp2_with fail
    refine (lessOrEq_no _ _ _ (by omega)).mono ?_
    rintro e w' ⟨rfl, rfl⟩
    go_wp2_with fail
    refine (lessOrEq_yes _ _ _ (by omega)).mono ?_
    rintro e w' ⟨rfl, rfl⟩
    go_wp2_with fail
    refine (lessOrEq_no _ _ _ (by omega)).mono ?_
    rintro e w' ⟨rfl, rfl⟩
    go_wp2_with fail
    refine (lessOrEq_yes _ _ _ (by omega)).mono ?_
    rintro e w' ⟨rfl, rfl⟩
    go_wp2_with fail
    go_ret
    exact ⟨rfl, rfl⟩

/-- bootstrap.IsID: six characters of [a-z0-9] -/
def isId (s : ByteArray) : Bool := s.size == 6 && s.data.toList.all fun u => alI (u.toNat : Int)

theorem isId_len {s : ByteArray} (h : s.size ≠ 6) : isId s = false := by unfold isId; simp [h]
theorem isId_bad {s : ByteArray} {k : Nat} (h : k < s.size) (hb : alI (s[k].toNat : Int) = false) : isId s = false := by
  unfold isId
  cases e : (s.size == 6)
  · rfl
  · simp only [Bool.true_and]
    refine Bool.eq_false_iff.2 fun hall => ?_
    rw [List.all_eq_true] at hall
    have hk : k < s.data.toList.length := by simpa using h
    have h2 : alI (s[k].toNat : Int) = true := hall _ (List.getElem_mem hk)
    rw [hb] at h2
    cases h2
theorem isId_good {s : ByteArray} (h6 : s.size = 6) (h : ∀ j (hj : j < s.size), alI (s[j].toNat : Int) = true) : isId s = true := by
  unfold isId
  rw [h6]
  simp only [beq_self_eq_true, Bool.true_and]
  rw [List.all_eq_true]
  intro u hu
  obtain ⟨i, hi, rfl⟩ := List.getElem_of_mem hu
  exact h i (by simpa using hi)

theorem ret_bool {a b : Bool} (h : a = b) : Ending.returned (.bool a) = .returned (.bool b) := by rw [h]
theorem byte_le (u : UInt8) : (0 : Int) ≤ (u.toNat : Int) ∧ (u.toNat : Int) ≤ 255 := by have := u.toNat_lt; omega

set_option maxHeartbeats 800000 in
theorem isID_any (s : ByteArray) (w : World) (hm : s.size ≤ maxLen) : Calls Try.prog 5 #[.string s] w fun e w' => e = .returned (.bool (isId s)) ∧ w' = w := by
  unfold maxLen at hm
  by_cases h6 : s.size = 6
  · have hne : ((s.size : Int) != 6) = false := by simp [h6]
    have H6 : Hid (s.size = 6) := h6
    clear h6
    go_enter Try.func5, Try.ntmps5
    go_wp2
    go_loop [9] (fun i => ∃ k : Nat, k ≤ s.size ∧ i = .int .i64 k ∧ Hid (∀ j (hj : j < s.size), j < k → alI (s[j].toNat : Int) = true)) (fun i => s.size - (intOf i).toNat)
    case atStart => exact ⟨0, Nat.zero_le _, rfl, fun j _ h => absurd h (by omega)⟩
    case round =>
      obtain ⟨k, hk, rfl, HA⟩ := hrel
      by_cases hlt : k < s.size
      · have b1 : (k : Int) < (s.size : Int) := by omega
        have hb := byte_le s[k]
        cases ha : alI (s[k].toNat : Int)
        · have ht := token_any (s[k].toNat : Int)
          rw [ha] at ht
          simp only [Bool.false_eq_true, if_false] at ht
          have HID : Hid (isId s = false) := isId_bad hlt ha
          clear ha
          go_wp2_with (go_at_call 8; refine (ht _ hb.1 hb.2).mono ?_; rintro e w' ⟨rfl, rfl⟩)
          go_ret
          exact ⟨ret_bool HID.out.symm, rfl⟩
        · have ht := token_any (s[k].toNat : Int)
          rw [ha] at ht
          simp only [if_true] at ht
          have HK : Hid (alI (s[k].toNat : Int) = true) := ha
          clear ha
          go_wp2_with (go_at_call 8; refine (ht _ hb.1 hb.2).mono ?_; rintro e w' ⟨rfl, rfl⟩)
          go_round
          case rel =>
            refine ⟨k + 1, by omega, by go_num, fun j hj hjk => ?_⟩
            by_cases e : j = k
            · subst e; exact HK.out
            · exact HA.out j hj (by omega)
          case measure => simp [intOf]; omega
      · have HG : Hid (isId s = true) := isId_good H6.out (fun j hj => HA.out j hj (by omega))
        go_wp2
        go_ret
        exact ⟨ret_bool HG.out.symm, rfl⟩
  · have hne : ((s.size : Int) != 6) = true := by simp; omega
    rw [isId_len h6]
    go_enter Try.func5, Try.ntmps5
    go_wp2
    go_ret
    exact ⟨rfl, rfl⟩
end Go.Proofs.Qxb6628240a
