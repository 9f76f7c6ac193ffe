/-
  SEAT b6628162a: FnLineWritePiecewiseAgreesWithWhole, walked.
-/
import Derived.Test.Qxb6628162aWrite
import Derived.Test.Qxb6628162aConcat
namespace Go.Proofs.Qxb6628162a
open Go.RowKit
set_option linter.unusedVariables false

/-- the first byte of a piece, as the law asks of it -/
def contB (c : Int) : Bool := bits BinOp.and IntKind.u8 c 192 == 128
theorem cont_rs (c : Int) (h : contB c = false) : rsB c = true := by
  unfold contB at h
  unfold rsB
  simp only [bne, h]
  rfl
theorem good_of {s : Text} (h0 : 0 < s.length) (h : contB ((s[0]'h0).toNat : Int) = false) : Good s := fun _ => by
  unfold rsAt
  rw [List.getD_eq_getElem?_getD, List.getElem?_eq_getElem h0]
  exact cont_rs _ h

theorem good_flatten : ∀ {ss : List Text}, (∀ s ∈ ss, Good s) → Good ss.flatten
  | [], _ => fun h => absurd rfl h
  | s :: r, h => by
    by_cases e : s = []
    · subst e
      exact good_flatten (ss := r) (fun t ht => h t (List.mem_cons_of_mem _ ht))
    · intro _
      have hs := h s (List.mem_cons_self ..) e
      unfold rsAt at hs ⊢
      rw [List.flatten_cons, List.getD_eq_getElem?_getD, List.getElem?_append_left (List.length_pos_iff.2 e), ← List.getD_eq_getElem?_getD]
      exact hs
theorem good_all {ss : List Text} {m : Nat} (h : ∀ j (hj : j < ss.length), j < m → Good ss[j]) (hm : ss.length ≤ m) : ∀ s ∈ ss, Good s := fun s hs => by
  obtain ⟨i, hi, rfl⟩ := List.getElem_of_mem hs
  exact h i hi (by omega)
/-- the line's own block -/
theorem LineIn.block {N B b : Nat} {l : Text} {c : Bool} {w : World} (h : LineIn N B b l c w) : ∃ p v, w.heap[b]? = some (.cells #[p, v, .bool c] 37 (0, 0)) := by
  obtain ⟨p, v, _, _, h, _⟩ := h
  exact ⟨p, v, h⟩
/-- bounded.Cut of a text -/
theorem cut_held (j : Text) (w : World) (hm : j.length ≤ maxLen) : Calls Try.prog 10 #[.string (str j), .int .i64 4096] w fun e w' => e = .returned (.string (str (held j))) ∧ w' = w :=
  cut_any (str j) 4096 w hm (Nat.le_refl _)

theorem held_long {j : Text} (h : 4096 < j.length) : ∃ x : Text, held j = x ++ mark ∧ x.length ≤ 4096 ∧ ∀ i (h1 : i < x.length) (h2 : i < j.length), x[i] = j[i] := by
  have hb := back_le j 4096
  refine ⟨j.take (back j 4096), ?_, ?_, fun i h1 h2 => ?_⟩
  · unfold held cutL
    rw [if_neg (by omega)]
  · rw [List.length_take]; omega
  · rw [List.getElem_take]

theorem mark_at {X T : Text} (h : X ++ mark = T) (i : Nat) (hi : i < 3) (hb : X.length + i < (str T).size) : ((str T)[X.length + i]'hb).toNat = (mark[i]'hi).toNat := by
  subst h
  show ((X ++ mark)[X.length + i]'hb).toNat = _
  rw [List.getElem_append_right (by omega)]
  simp only [Nat.add_sub_cancel_left]
  rfl
theorem ext_head {X T : Text} (h : X ++ mark = T) : (str T).extract 0 X.length = str X := by
  subst h
  apply ByteArray.ext
  apply Array.toList_inj.1
  rw [take_data]
  show (X ++ mark).take X.length = X
  exact List.take_left

set_option maxHeartbeats 16000000 in
set_option maxRecDepth 100000 in
theorem law (ss : List Text) (ao : Option Addr) (cap : Nat) (w : World) (hv : Strs w (.slice ao ss.length cap) ss) :
    Calls Try.prog 3 #[.slice ao ss.length cap] w fun e w' => e = .returned (.bool true) ∧ Below w.heap.size w w' := by
  go_enter Try.func3, Try.ntmps3
  go_wp2_with fail
  refine (bytes_any ss ao cap w hv).mono ?_
  rintro e w' ⟨r, rfl, hw, hr⟩
  obtain rfl : w = w' := hw.symm
  clear hw
  cases r
  · go_wp2
    go_ret
    exact ⟨rfl, Below.refl _ _⟩
  have HSM : Hid (Small ss) := hr rfl
  clear hr
  by_cases hn : 65536 < ss.length
  · have hxm : ss.length ≤ maxLen := by obtain ⟨_, _, _, h, _⟩ := hv; exact h
    unfold maxLen at hxm
    go_wp2
    go_ret
    exact ⟨rfl, Below.refl _ _⟩
  go_wp2_with fail
  go_loop [3, 4, 5] (fun t b i => ∃ (k : Nat), k ≤ ss.length ∧ i = .int .i64 k ∧ t = .int .i64 ((16 * k + sumTo ss k : Nat) : Int) ∧ b = .int .i64 (sumTo ss k : Nat) ∧ 16 * k + sumTo ss k ≤ 1048576) (fun _ _ i => ss.length - (intOf i).toNat)
  case atStart => exact ⟨0, Nat.zero_le _, rfl, rfl, rfl, by simp [sumTo]⟩
  case round =>
    obtain ⟨k, hk1, rfl, rfl, rfl, hq1⟩ := hrel
    by_cases hlt : k < ss.length
    · obtain ⟨ao', cap', e1, _, _, hc⟩ := id hv
      cases e1
      obtain ⟨bb, oo, rfl, hcell⟩ := hc (fun e => by subst e; simp at hlt)
      have hu := hcell k hlt
      have hl2 := HSM.out _ (List.getElem_mem hlt)
      have hss : (str ss[k]).size = ss[k].length := rfl
      have b1 : (k : Int) < (ss.length : Int) := by omega
      have HS : Hid (sumTo ss (k + 1) = sumTo ss k + ss[k].length) := sumTo_succ hlt
      clear hcell hc
      go_wp2
      · go_ret
        exact ⟨rfl, Below.refl _ _⟩
      · go_round
        case rel =>
          refine ⟨k + 1, by omega, by go_num, ?_, ?_, ?_⟩
          · rw [HS.out]; go_num
          · rw [HS.out]; go_num
          · rw [HS.out]; omega
        case measure => simp [intOf]; omega
    · have hflat : ss.flatten.length ≤ 1048576 := by
        have : sumTo ss k = ss.flatten.length := by unfold sumTo; rw [List.take_of_length_le (by omega)]
        omega
      have hsk : sumTo ss k ≤ 1048576 := by omega
      generalize sumTo ss k = sz at hq1 hsk
      clear hq1
      have hn2 : ss.length ≤ 65536 := by omega
      go_wp2_with fail
      clear hk1 hlt hn
      go_loop [6] (fun i => ∃ (m : Nat), m ≤ ss.length ∧ i = .int .i64 m ∧ Hid (∀ j (hj : j < ss.length), j < m → Good ss[j])) (fun i => ss.length - (intOf i).toNat)
      case atStart => exact ⟨0, Nat.zero_le _, rfl, fun j _ h => absurd h (by omega)⟩
      case round =>
        obtain ⟨m, hm1, rfl, HG⟩ := hrel
        by_cases hlt : m < ss.length
        · obtain ⟨ao', cap', e1, _, _, hc⟩ := id hv
          cases e1
          obtain ⟨bb, oo, rfl, hcell⟩ := hc (fun e => by subst e; simp at hlt)
          have hu := hcell m hlt
          have hl2 := HSM.out _ (List.getElem_mem hlt)
          have hss : (str ss[m]).size = ss[m].length := rfl
          have b1 : (m : Int) < (ss.length : Int) := by omega
          clear hcell hc
          by_cases h0 : 0 < ss[m].length
          · have hd : decide (0 < ss[m].length) = true := by simpa using h0
            have b2 : (0 : Int) < (ss[m].length : Int) := by omega
            go_wp2
            · go_ret
              exact ⟨rfl, Below.refl _ _⟩
            · have hcb : contB ((ss[m][0]'h0).toNat : Int) = false := by assumption
              have hgm := good_of h0 hcb
              go_round
              case rel =>
                refine ⟨m + 1, by omega, by go_num, fun j hj hjm => ?_⟩
                by_cases e : j = m
                · subst e; exact hgm
                · exact HG.out j hj (by omega)
              case measure => simp [intOf]; omega
          · have hd : decide (0 < ss[m].length) = false := by simpa using h0
            go_wp2
            go_round
            case rel =>
              refine ⟨m + 1, by omega, by go_num, fun j hj hjm => ?_⟩
              by_cases e : j = m
              · subst e; exact fun hne => absurd (List.length_eq_zero_iff.1 (by omega)) hne
              · exact HG.out j hj (by omega)
            case measure => simp [intOf]; omega
        · have HGA : Hid (∀ s ∈ ss, Good s) := good_all HG.out (by omega)
          clear HG
          go_wp2_with fail
          clear hm1 hlt
          refine (concat_any ss _ sz w hv hn2 hsk hflat).mono ?_
          rintro e w1 ⟨rfl, hb1⟩
          replace hv := hv.below hb1
          go_wp2_with fail
          refine (newLine_any w1).mono ?_
          rintro e w2 ⟨rfl, hla, hbn⟩
          have hbA := hb1.size
          have e0 : held ([] : Text) = [] := rfl
          have e1 : isCut ([] : Text) = false := rfl
          rw [← e0, ← e1] at hla
          clear e0 e1
          go_wp2_with fail
          go_loopw [9] (fun i wr => ∃ m : Nat, m ≤ ss.length ∧ i = .int .i64 m ∧ IsLine w1.heap.size w1.heap.size (held (ss.take m).flatten) (isCut (ss.take m).flatten) wr ∧ Below w1.heap.size w1 wr) (fun i _ => ss.length - (intOf i).toNat)
          case atStart => exact ⟨0, Nat.zero_le _, rfl, hla, hbn⟩
          case round =>
            obtain ⟨m, hm1, rfl, hl, hbr⟩ := hrel
            by_cases hlt : m < ss.length
            · obtain ⟨ao', cap', e1, _, _, hc⟩ := hv.below hbr
              cases e1
              obtain ⟨bb, oo, rfl, hcell⟩ := hc (fun e => by subst e; simp at hlt)
              have hu := hcell m hlt
              have hl2 := HSM.out _ (List.getElem_mem hlt)
              have b1 : (m : Int) < (ss.length : Int) := by omega
              have hw := write_any ss[m] hl (HGA.out _ (List.getElem_mem hlt)) hl2 hbr.size
              rw [← flat_succ hlt] at hw
              clear hcell hc hla
              go_wp2_with (go_at_call 7; refine hw.mono ?_; rintro e w3 ⟨rfl, hl3, hb3⟩)
              go_roundw
              case rel => exact ⟨m + 1, by omega, by go_num, hl3, hbr.trans hb3⟩
              case measure => simp [intOf]; omega
            · have hfl : (ss.take m).flatten = ss.flatten := by rw [List.take_of_length_le (by omega)]
              rw [hfl] at hl
              have HJ : Hid (Good ss.flatten) := good_flatten HGA.out
              have hia := hl.in
              generalize ss.flatten = J at hl hia HJ hflat ⊢
              have hbr0 : Below w.heap.size w wr := hb1.trans (hbr.mono hbA)
              clear hla hv hfl hbn hb1
              go_wp2_with fail
              refine (newLine_any wr).mono ?_
              rintro e w4 ⟨rfl, hlb, hbn4⟩
              replace hia := hia.below hbn4
              have hbr4 : Below w.heap.size w w4 := hbr0.trans (hbn4.mono hbr0.size)
              have hs4 := hbn4.size
              have e0 : held ([] : Text) = [] := rfl
              have e1 : isCut ([] : Text) = false := rfl
              rw [← e0, ← e1] at hlb
              clear e0 e1 hbn4 hl
              have hwb := write_any (j := []) J hlb HJ.out hflat hs4
              simp only [List.nil_append] at hwb
              clear hlb
              go_wp2_with fail
              refine hwb.mono ?_
              rintro e w5 ⟨rfl, hlb5, hb5⟩
              replace hia := hia.below hb5
              have hib := hlb5.in
              have hbr5 : Below w.heap.size w w5 := hbr4.trans (hb5.mono hbr0.size)
              have hAw : w1.heap.size < wr.heap.size := by obtain ⟨p, v, h, _⟩ := hia; exact h
              have hs5 := hb5.size
              have hbs0 := hbr0.size
              clear hlb5 hwb hb5 hbr4 hbr0 hbr
              by_cases hJ : J.length ≤ 4096
              · have ec : isCut J = false := by unfold isCut; simpa using hJ
                rw [held_short hJ, ec] at hia hib
                have hch := cut_held J
                rw [held_short hJ] at hch
                clear ec HJ
                go_wp2_with fail
                refine (text_any hia).mono ?_
                rintro e w6 ⟨rfl, row, hg6, hr6⟩
                obtain ⟨pa, va, hba⟩ := hia.block
                have hba6 : w6.heap[w1.heap.size]? = some (.cells #[pa, va, .bool false] 37 (0, 0)) := by rw [hg6.block _ (by omega) (fun e => (hr6 _ e.symm).2.2 rfl)]; exact hba
                replace hib := hib.kept hg6 (fun g e => Or.inl (hr6 g e).2.1)
                have hbr6 : Below w.heap.size w w6 := hbr5.grown hg6 hbr5.size (fun g e => by have := (hr6 g e).1; omega)
                clear hba hia hbr5 hg6 hr6
                go_wp2_with fail
                refine (flag_at hba6).mono ?_
                rintro e w7 ⟨rfl, hw⟩
                obtain rfl : w6 = w7 := hw.symm
                clear hw
                go_wp2_with fail
                refine (text_any hib).mono ?_
                rintro e w7 ⟨rfl, row7, hg7, hr7⟩
                obtain ⟨pb, vb, hbb⟩ := hib.block
                have hbb7 : w7.heap[wr.heap.size]? = some (.cells #[pb, vb, .bool false] 37 (0, 0)) := by rw [hg7.block _ (lt_of_heap hbb) (fun e => (hr7 _ e.symm).2.2 rfl)]; exact hbb
                have hbr7 : Below w.heap.size w w7 := hbr6.grown hg7 hbr6.size (fun g e => by have := (hr7 g e).1; omega)
                clear hbb hib hbr6 hg7 hr7 hba6
                go_wp2_with fail
                refine (flag_at hbb7).mono ?_
                rintro e w8 ⟨rfl, hw⟩
                obtain rfl : w7 = w8 := hw.symm
                clear hw
                go_wp2_with fail
                refine (hch w7 (by unfold maxLen; omega)).mono ?_
                rintro e w8 ⟨rfl, hw⟩
                obtain rfl : w7 = w8 := hw.symm
                clear hw hch
                go_wp2
                go_ret
                exact ⟨rfl, hbr7⟩
              · have ec : isCut J = true := by unfold isCut; simp; omega
                obtain ⟨X, hX, hXl, hXp⟩ := held_long (by omega : 4096 < J.length)
                rw [hX, ec] at hia hib
                have hch := cut_held J
                rw [hX] at hch
                have hTl : (X ++ mark).length = X.length + 3 := by rw [List.length_append]; rfl
                have HT : Hid (∃ X', X' = X ++ mark) := ⟨_, rfl⟩
                generalize hTe : X ++ mark = T at hia hib hch hTl
                have HTE : Hid (X ++ mark = T) := hTe
                clear ec HJ hX hTe
                go_wp2_with fail
                refine (text_any hia).mono ?_
                rintro e w6 ⟨rfl, row, hg6, hr6⟩
                obtain ⟨pa, va, hba⟩ := hia.block
                have hba6 : w6.heap[w1.heap.size]? = some (.cells #[pa, va, .bool true] 37 (0, 0)) := by rw [hg6.block _ (by omega) (fun e => (hr6 _ e.symm).2.2 rfl)]; exact hba
                replace hib := hib.kept hg6 (fun g e => Or.inl (hr6 g e).2.1)
                have hbr6 : Below w.heap.size w w6 := hbr5.grown hg6 hbr5.size (fun g e => by have := (hr6 g e).1; omega)
                clear hba hia hbr5 hg6 hr6
                go_wp2_with fail
                refine (flag_at hba6).mono ?_
                rintro e w7 ⟨rfl, hw⟩
                obtain rfl : w6 = w7 := hw.symm
                clear hw
                go_wp2_with fail
                refine (text_any hib).mono ?_
                rintro e w7 ⟨rfl, row7, hg7, hr7⟩
                obtain ⟨pb, vb, hbb⟩ := hib.block
                have hbb7 : w7.heap[wr.heap.size]? = some (.cells #[pb, vb, .bool true] 37 (0, 0)) := by rw [hg7.block _ (lt_of_heap hbb) (fun e => (hr7 _ e.symm).2.2 rfl)]; exact hbb
                have hbr7 : Below w.heap.size w w7 := hbr6.grown hg7 hbr6.size (fun g e => by have := (hr7 g e).1; omega)
                clear hbb hib hbr6 hg7 hr7 hba6
                go_wp2_with fail
                refine (flag_at hbb7).mono ?_
                rintro e w8 ⟨rfl, hw⟩
                obtain rfl : w7 = w8 := hw.symm
                clear hw
                go_wp2_with fail
                refine (hch w7 (by unfold maxLen; omega)).mono ?_
                rintro e w8 ⟨rfl, hw⟩
                obtain rfl : w7 = w8 := hw.symm
                clear hw hch
                have ht0 : ∀ h, ((str T)[X.length]'h).toNat = 226 := fun h => mark_at HTE.out 0 (by decide) h
                have ht1 : ∀ h, ((str T)[X.length + 1]'h).toNat = 128 := fun h => mark_at HTE.out 1 (by decide) h
                have ht2 : ∀ h, ((str T)[X.length + 2]'h).toNat = 166 := fun h => mark_at HTE.out 2 (by decide) h
                go_wp2_with fail
                rw [ext_head HTE.out]
                refine (prefix_yes (str X) (str J) w7 (by show X.length ≤ J.length; omega) (by show J.length ≤ maxLen; unfold maxLen; omega) (fun i h1 h2 => hXp i h1 h2)).mono ?_
                rintro e w8 ⟨rfl, n8, hw8⟩
                have hbr8 : Below w.heap.size w w8 := by rw [hw8]; exact below_drewN hbr7 n8
                clear hw8
                go_wp2
                go_ret
                exact ⟨rfl, hbr8⟩
end Go.Proofs.Qxb6628162a
