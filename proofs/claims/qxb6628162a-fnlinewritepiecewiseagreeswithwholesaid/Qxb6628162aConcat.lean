/-
  SEAT b6628162a: concatPieces, isPrefixOf, the bound on total length, walked.
-/
import Derived.Test.Qxb6628162aLine
import Derived.Laws.IdiomStrings
namespace Go.Proofs.Qxb6628162a
open Go.RowKit
set_option linter.unusedVariables false

/-- v is a []string that holds ss -/
def Strs (w : World) (v : Value) (ss : List Text) : Prop :=
  ∃ ao cap, v = .slice ao ss.length cap ∧ ss.length ≤ maxLen ∧ (∀ s ∈ ss, s.length ≤ maxLen) ∧ (ss ≠ [] → ∃ b o, ao = some ⟨b, o, none⟩ ∧ ∀ i (h : i < ss.length), w.cell? ⟨b, o + i, none⟩ = some (.string (str ss[i])))

theorem Strs.below {w w' : World} {v : Value} {ss : List Text} (h : Strs w v ss) (hb : Below w.heap.size w w') : Strs w' v ss := by
  obtain ⟨ao, c, rfl, h1, h2, h⟩ := h
  refine ⟨ao, c, rfl, h1, h2, fun hne => ?_⟩
  obtain ⟨b, o, rfl, hc⟩ := h hne
  exact ⟨b, o, rfl, fun i hi => (hb.cell (p := ⟨b, o + i, none⟩) (World.block_lt_of_cell? _ _ (hc i hi))).trans (hc i hi)⟩

/-- how many bytes the first k hold -/
def sumTo (ss : List Text) (k : Nat) : Nat := (ss.take k).flatten.length
theorem sumTo_succ {ss : List Text} {k : Nat} (h : k < ss.length) : sumTo ss (k + 1) = sumTo ss k + ss[k].length := by
  unfold sumTo
  rw [List.take_succ_eq_append_getElem h, List.flatten_append, List.length_append]
  simp
theorem flat_succ {ss : List Text} {k : Nat} (h : k < ss.length) : (ss.take (k + 1)).flatten = (ss.take k).flatten ++ ss[k] := by
  rw [List.take_succ_eq_append_getElem h, List.flatten_append]
  simp
theorem sumTo_le {ss : List Text} (k : Nat) : sumTo ss k ≤ ss.flatten.length := by
  unfold sumTo
  conv => rhs; rw [← List.take_append_drop k ss, List.flatten_append, List.length_append]
  omega

/-- 'string(b)', b a row of the call's own -/
theorem run_string_of_own {base : Nat} {v : Value} {l : Text} (w : World) (h : w.ownsRow base 5 1 v l.length (Lib.byteCells l)) : (convert 32 9 v).run Try.prog w = .ok (.string (str l)) w := by
  rcases id h.2 with ⟨rfl, h0⟩ | ⟨g, cap, cur, rfl, _⟩
  · have e : l = [] := List.length_eq_zero_iff.1 h0
    subst e
    rw [run_convert_bytes_string w 32 9 5 none 0 0 Try.underlying32 Try.underlying5 Try.underlying9]
    rfl
  · refine run_convert_bytes_back (P := Try.prog) w 32 9 5 ⟨g, 0, none⟩ cap l Try.underlying32 Try.underlying5 Try.underlying9 (fun j hj => ?_)
    rw [Addr.add_lit, Nat.zero_add, h.cellAt j (by omega)]
    unfold Lib.byteCells
    rw [List.getElem?_map, List.getElem?_eq_getElem hj]
    rfl

set_option maxHeartbeats 2000000 in
theorem concat_any (ss : List Text) (v : Value) (sz : Nat) (w : World) (hv : Strs w v ss) (hn : ss.length ≤ 65536) (hz : sz ≤ 1048576) (hf : ss.flatten.length ≤ 1048576) :
    Calls Try.prog 5 #[v, .int .i64 sz] w fun e w' => e = .returned (.string (str ss.flatten)) ∧ Below w.heap.size w w' := by
  obtain ⟨ao, cap, rfl, _, _, hc⟩ := hv
  obtain ⟨i0, hi, hz0, hz1, hz2⟩ := info_parts Try.info5
  go_enter Try.func5, Try.ntmps5
  go_wp2_with (at_make; refine wpList_make_own _ rfl _ _ 32 rfl w.heap.size 5 i0 (.int .u8 0) 1 Try.underlying32 hi hz0 hz1 .i64 .i64 sz sz rfl rfl rfl (by rw [hz2]; omega) (by unfold maxLen; omega) (Nat.le_refl _) ?_; intro w1 hown1 hgrow1)
  have hb1 : Below w.heap.size w w1 := (Below.refl _ _).grown hgrow1 (Nat.le_refl _) (fun k h => by cases h)
  clear hgrow1
  go_loopw [5, 6] (fun b i wr => ∃ k : Nat, k ≤ ss.length ∧ i = .int .i64 k ∧ (∃ ao' n' c', b = .slice ao' n' c') ∧ wr.ownsRow w.heap.size 5 1 b (sumTo ss k) (Lib.byteCells (ss.take k).flatten) ∧ Below w.heap.size w wr) (fun _ i _ => ss.length - (intOf i).toNat)
  case atStart => exact ⟨0, Nat.zero_le _, rfl, ⟨_, _, _, rfl⟩, hown1, hb1⟩
  case round =>
    obtain ⟨k, hk, rfl, ⟨ao', n', c', rfl⟩, hown, hbel⟩ := hrel
    have hsl := sumTo_le (ss := ss) k
    by_cases hlt : k < ss.length
    · obtain ⟨b, o, rfl, hcell⟩ := hc (fun e => by subst e; simp at hlt)
      have hu := hcell k hlt
      have hub : b < w.heap.size := World.block_lt_of_cell? _ _ hu
      rw [← hbel.cell (p := ⟨b, o + k, none⟩) hub] at hu
      have b1 : (k : Int) < (ss.length : Int) := by omega
      have hs2 := sumTo_le (ss := ss) (k + 1)
      have hs3 := sumTo_succ hlt
      have hss : (str ss[k]).size = ss[k].length := rfl
      have HS : Hid (sumTo ss (k + 1) = sumTo ss k + ss[k].length) := hs3
      have hbd : sumTo ss k + ss[k].length ≤ 1048576 := by omega
      clear hs2 hs3 hcell
      go_wp2_with (at_builtin; refine Lib.wpList_append_own_string _ rfl _ _ 32 9 rfl w.heap.size 5 i0 Try.underlying32 Try.underlying9 hi hz0 hz1 hz2 _ _ _ rfl hown (str ss[k]) rfl (by unfold maxLen; omega) (by omega) hbel.size ?_; intro v' w2 hown' hgrow hnil)
      have hsh : ∃ ao n' cap, v' = .slice ao n' cap := by
        rcases hown'.2 with ⟨hv, _⟩ | ⟨g, cap, cur, hv, _⟩
        · exact ⟨_, _, _, hv⟩
        · exact ⟨_, _, _, hv⟩
      go_roundw
      case rel =>
        refine ⟨k + 1, by omega, by go_num, hsh, ?_, hbel.grown hgrow hbel.size (fun q hq => (hown.lt q hq).1)⟩
        rw [HS.out, flat_succ hlt, Lib.byteCells_append]
        exact hown'
      case measure => simp [intOf]; omega
    · have hfl : (ss.take k).flatten = ss.flatten := by rw [List.take_of_length_le (by omega)]
      have hcv : (convert 32 9 (.slice ao' n' c')).run Try.prog wr = .ok (.string (str ss.flatten)) wr := by
        have e : sumTo ss k = ss.flatten.length := by unfold sumTo; rw [hfl]
        rw [hfl, e] at hown
        exact run_string_of_own wr hown
      clear hown hfl
      go_wp2
      go_ret
      exact ⟨rfl, hbel⟩

theorem ret_bool {a b : Bool} (h : a = b) : Ending.returned (.bool a) = .returned (.bool b) := by rw [h]

set_option maxHeartbeats 1000000 in
/-- isPrefixOf, where it is one -/
theorem prefix_yes (p s : ByteArray) (w : World) (hps : p.size ≤ s.size) (hm : s.size ≤ maxLen) (he : ∀ i (h1 : i < p.size) (h2 : i < s.size), p[i] = s[i]) :
    Calls Try.prog 11 #[.string p, .string s] w fun e w' => e = .returned (.bool true) ∧ ∃ n, w' = w.drewN n := by
  unfold maxLen at hm
  have h1 : ¬ (s.size : Int) < (p.size : Int) := by omega
  go_enter Try.func11, Try.ntmps11
  go_wp2
  go_loopw [5] (fun i wr => ∃ k n : Nat, k ≤ p.size ∧ i = .int .i64 k ∧ Hid (wr = w.drewN n)) (fun i _ => p.size - (intOf i).toNat)
  case atStart => exact ⟨0, 0, Nat.zero_le _, rfl, rfl⟩
  case round =>
    obtain ⟨k, n, hk, rfl, HW⟩ := hrel
    by_cases hlt : k < p.size
    · have hls : k < s.size := by omega
      have b1 : (k : Int) < (p.size : Int) := by omega
      have b2 : (k : Int) < (s.size : Int) := by omega
      have heq := he k hlt hls
      have hne : ((p[k].toNat : Int) != (s[k].toNat : Int)) = false := by rw [heq]; simp
      have hne2 : (p[k].toNat != s[k].toNat) = false := by rw [heq]; simp
      clear heq
      go_wp2
      go_quiet (fail)
      go_wp2
      go_roundw
      case rel => exact ⟨k + 1, n + nq, by omega, by go_num, by rw [Hid, HW.out, World.drewN_drewN]⟩
      case measure => simp [intOf]; omega
    · go_wp2
      go_ret
      exact ⟨rfl, n, HW.out⟩

/-- a bool comes back, the world as it was; if it is true, p -/
def BPost (w : World) (p : Prop) (e : Ending) (w' : World) : Prop := ∃ r, e = .returned (.bool r) ∧ w' = w ∧ (r = true → p)
theorem BPost.no {w : World} {p : Prop} : BPost w p (.returned (.bool false)) w := ⟨false, rfl, rfl, fun h => by cases h⟩
theorem BPost.yes {w : World} {p : Prop} (h : p) : BPost w p (.returned (.bool true)) w := ⟨true, rfl, rfl, fun _ => h⟩
/-- every piece is small -/
def Small (ss : List Text) : Prop := ∀ s ∈ ss, s.length ≤ 1048576
theorem small_of {ss : List Text} {k : Nat} (h : ∀ j (hj : j < ss.length), j < k → ss[j].length ≤ 1048576) (hk : ss.length ≤ k) : Small ss := fun l hl => by
  obtain ⟨i, hi, rfl⟩ := List.getElem_of_mem hl
  exact h i hi (by omega)

set_option maxHeartbeats 1600000 in
/-- zzBytes_FnLineWritePiecewiseAgreesWithWhole -/
theorem bytes_any (ss : List Text) (ao : Option Addr) (cap : Nat) (w : World) (hv : Strs w (.slice ao ss.length cap) ss) :
    Calls Try.prog 4 #[.slice ao ss.length cap] w (BPost w (Small ss)) := by
  obtain ⟨ao', cap', e, hxm, hlm, hc⟩ := hv
  cases e
  unfold maxLen at hxm hlm
  go_enter Try.func4, Try.ntmps4
  go_wp2
  · go_ret
    exact BPost.no
  go_loop [3, 4] (fun z i => ∃ (k : Nat) (q : Int), k ≤ ss.length ∧ i = .int .i64 k ∧ z = .int .i64 q ∧ 0 ≤ q ∧ q ≤ 1048576 ∧ Hid (∀ j (hj : j < ss.length), j < k → ss[j].length ≤ 1048576)) (fun _ i => ss.length - (intOf i).toNat)
  case atStart => exact ⟨0, _, Nat.zero_le _, rfl, rfl, by omega, by omega, fun j _ h => absurd h (by omega)⟩
  case round =>
    obtain ⟨k, q, hk1, rfl, rfl, hq0, hq1, HD⟩ := hrel
    by_cases hlt : k < ss.length
    · obtain ⟨b, o, rfl, hcell⟩ := hc (fun e => by subst e; simp at hlt)
      have hu := hcell k hlt
      have hl2 := hlm _ (List.getElem_mem hlt)
      have hss : (str ss[k]).size = ss[k].length := rfl
      have b1 : (k : Int) < (ss.length : Int) := by omega
      clear hcell
      go_wp2
      · go_ret
        exact BPost.no
      · go_ret
        exact BPost.no
      · have h1 : ss[k].length ≤ 1048576 := by omega
        go_round
        case rel =>
          refine ⟨k + 1, _, by omega, by go_num, rfl, by omega, by omega, fun j hj hjk => ?_⟩
          by_cases e : j = k
          · subst e; exact h1
          · exact HD.out j hj (by omega)
        case measure => simp [intOf]; omega
    · have HSM : Hid (Small ss) := small_of HD.out (by omega)
      clear HD
      go_wp2
      go_ret
      exact BPost.yes HSM.out
end Go.Proofs.Qxb6628162a
