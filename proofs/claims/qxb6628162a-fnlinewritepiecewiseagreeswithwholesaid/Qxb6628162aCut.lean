/-
  SEAT b6628162a: utf8.RuneStart, bounded.Cut, walked.
-/
import Derived.Test.Qxb6628162aChecked
import Derived.Test.Qxb6628162aPlain
import Derived.WalkKit
import Derived.WalkLawsBesides
import Derived.WalkSpells
import Derived.Deep.QuietTactic
import Derived.BigQuiet
namespace Go.Proofs.Qxb6628162a
open Go.RowKit
set_option linter.unusedVariables false

set_option maxHeartbeats 400000 in
theorem runeStart_any (c : Int) (w : World) : Calls Try.prog 15 #[.int .u8 c] w fun e w' => e = .returned (.bool (rsB c)) ∧ w' = w := by
  go_enter Try.func15, Try.ntmps15
  go_wp2
  go_ret
  exact ⟨rfl, rfl⟩

/-- the string that holds l -/
abbrev str (l : Text) : ByteArray := ⟨l.toArray⟩

theorem ret_str {a b : ByteArray} (h : a = b) : Ending.returned (.string a) = .returned (.string b) := by rw [h]

theorem rsAt_eq (s : ByteArray) (e : Nat) (h : e < s.size) : rsAt s.data.toList e = rsB (s[e].toNat : Int) := by
  unfold rsAt
  have : s.data.toList.getD e 0 = s[e] := by
    rw [List.getD_eq_getElem?_getD, List.getElem?_eq_getElem (by simpa using h)]
    rfl
  rw [this]

theorem take_data (s : ByteArray) (e : Nat) : (s.extract 0 e).data.toList = s.data.toList.take e := by
  rw [ByteArray.data_extract]
  simp

theorem cut_eq {s : ByteArray} {lim e : Nat} (h : lim < s.size) (he : back s.data.toList lim = e) : s.extract 0 e ++ (⟨#[226, 128, 166]⟩ : ByteArray) = str (cutL s.data.toList lim) := by
  apply ByteArray.ext
  apply Array.toList_inj.1
  have hl : s.data.toList.length = s.size := rfl
  unfold cutL
  rw [if_neg (by omega), he, ByteArray.data_append, Array.toList_append, take_data]
  rfl

set_option maxHeartbeats 800000 in
theorem cut_short (s : ByteArray) (lim : Int) (w : World) (h : (s.size : Int) ≤ lim) : Calls Try.prog 10 #[.string s, .int .i64 lim] w fun e w' => e = .returned (.string s) ∧ w' = w := by
  go_enter Try.func10, Try.ntmps10
  go_wp2
  go_ret
  exact ⟨rfl, rfl⟩

set_option maxHeartbeats 800000 in
theorem cut_long (s : ByteArray) (lim : Nat) (w : World) (h : lim < s.size) (hm : s.size ≤ maxLen) (hl : lim ≤ 4096) :
    Calls Try.prog 10 #[.string s, .int .i64 lim] w fun e w' => e = .returned (.string (str (cutL s.data.toList lim))) ∧ w' = w := by
  unfold maxLen at hm
  have h1 : ¬ (s.size : Int) ≤ (lim : Int) := by omega
  go_enter Try.func10, Try.ntmps10
  go_wp2
  go_loop [5] (fun t => ∃ e : Nat, e ≤ lim ∧ t = .int .i64 e ∧ Hid (back s.data.toList e = back s.data.toList lim)) (fun t => (intOf t).toNat)
  case atStart => exact ⟨lim, Nat.le_refl _, rfl, rfl⟩
  case round =>
    obtain ⟨e, he, rfl, HB⟩ := hrel
    have hes : e < s.size := by omega
    have hrs := rsAt_eq s e hes
    have HR : Hid (rsAt s.data.toList e = rsB (s[e].toNat : Int)) := hrs
    clear hrs
    by_cases h0 : e = 0
    · have hd : decide (0 < e) = false := by simp; omega
      have H0 : Hid (e = 0) := h0
      clear h0
      go_wp2
      go_ret
      exact ⟨ret_str (cut_eq h (by rw [← HB.out, H0.out]; rfl)), rfl⟩
    · have hd : decide (0 < e) = true := by simp; omega
      cases hr : rsB (s[e].toNat : Int)
      · go_wp2_with (go_at_call 15; refine (runeStart_any _ _).mono ?_; rintro e w' ⟨rfl, rfl⟩)
        go_round
        case rel =>
          refine ⟨e - 1, by omega, by go_num, ?_⟩
          have hb := HB.out
          obtain ⟨q, hq⟩ : ∃ q, e = q + 1 := ⟨e - 1, by omega⟩
          have hr' := HR.out.trans hr
          show back s.data.toList (e - 1) = _
          rw [← hb, hq]
          rw [hq] at hr'
          show back s.data.toList q = _
          conv => rhs; unfold back
          rw [hr']
          rfl
        case measure => simp [intOf]; omega
      · go_wp2_with (go_at_call 15; refine (runeStart_any _ _).mono ?_; rintro e w' ⟨rfl, rfl⟩)
        go_ret
        refine ⟨ret_str (cut_eq h ?_), rfl⟩
        rw [← HB.out]
        have hr' := HR.out.trans hr
        obtain ⟨q, hq⟩ : ∃ q, e = q + 1 := ⟨e - 1, by omega⟩
        rw [hq] at hr' ⊢
        unfold back
        rw [hr']
        rfl

/-- bounded.Cut -/
theorem cut_any (s : ByteArray) (lim : Nat) (w : World) (hm : s.size ≤ maxLen) (hl : lim ≤ 4096) :
    Calls Try.prog 10 #[.string s, .int .i64 lim] w fun e w' => e = .returned (.string (str (cutL s.data.toList lim))) ∧ w' = w := by
  by_cases h : lim < s.size
  · exact cut_long s lim w h hm hl
  · refine (cut_short s lim w (by omega)).mono fun e w' ⟨he, hw⟩ => ⟨he.trans (ret_str ?_), hw⟩
    have hl : s.data.toList.length = s.size := rfl
    unfold cutL
    rw [if_pos (by omega)]
end Go.Proofs.Qxb6628162a
