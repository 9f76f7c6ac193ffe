/-
  SEAT b6627850a: the two bounds on total length (zzBytes_..); ZZnewMap, ZZsplits.
-/
import Derived.Test.Qxb6627850aCmp
namespace Go.Proofs.Qxb6627850a
open Go.RowKit Go.Lib
set_option linter.unusedVariables false

/-- every key is small -/
def Small (x : List Key) : Prop := ∀ l ∈ x, l.length ≤ 1048576
theorem small_of {x : List Key} {k : Nat} (h : ∀ j (hj : j < x.length), j < k → x[j].length ≤ 1048576) (hk : x.length ≤ k) : Small x := fun l hl => by
  obtain ⟨i, hi, rfl⟩ := List.getElem_of_mem hl
  exact h i hi (by omega)
/-- .. and so many of them, and each number -/
def Bnd (x : List Key) (ns : List Nat) : Prop := x.length ≤ 1048576 ∧ Small x ∧ ∀ n ∈ ns, n ≤ 1048576
theorem bnd_one {x : List Key} {p : Nat} (h : x.length ≤ 1048576) (hs : Small x) (hp : p ≤ 1048576) : Bnd x [p] := ⟨h, hs, fun n hn => by simp at hn; omega⟩
theorem bnd_two {x : List Key} {p q : Nat} (h : x.length ≤ 1048576) (hs : Small x) (hp : p ≤ 1048576) (hq : q ≤ 1048576) : Bnd x [p, q] := ⟨h, hs, fun n hn => by simp at hn; omega⟩
theorem small_nil : Small [] := fun l hl => absurd hl (by simp)
theorem no_true {p : Prop} : (false = true → p) := fun h => by cases h
/-- a bool comes back, the world as it was; if it is true, p -/
def BPost (w : World) (p : Prop) (e : Ending) (w' : World) : Prop := ∃ r, e = .returned (.bool r) ∧ w' = w ∧ (r = true → p)
theorem BPost.no {w : World} {p : Prop} : BPost w p (.returned (.bool false)) w := ⟨false, rfl, rfl, no_true⟩
theorem BPost.yes {w : World} {p : Prop} (h : p) : BPost w p (.returned (.bool true)) w := ⟨true, rfl, rfl, fun _ => h⟩
theorem BPost.mono {w : World} {p q : Prop} (h : p → q) {e : Ending} {w' : World} (k : BPost w p e w') : BPost w q e w' := let ⟨r, a, b, c⟩ := k; ⟨r, a, b, fun t => h (c t)⟩

set_option maxHeartbeats 1600000 in
theorem bytes5_full (x : List Key) (S : Nat → Prop) (bx ox cx : Nat) (po : Option Addr) (pn pc : Nat) (qo : Option Addr) (qn qc : Nat) (w : World) (hxm : x.length ≤ maxLen) (hp : pn ≤ maxLen) (hq : qn ≤ maxLen)
    (hx : ∀ i (h : i < x.length), ∃ u, w.cell? ⟨bx, ox + i, none⟩ = some u ∧ Bys S w u x[i]) :
    Calls Try.prog 5 #[.slice (some ⟨bx, ox, none⟩) x.length cx, .slice po pn pc, .slice qo qn qc] w (BPost w (Bnd x [pn, qn])) := by
  unfold maxLen at hxm hp hq
  go_enter Try.func5, Try.ntmps5
  go_wp2
  · go_ret
    exact BPost.no
  go_loop [7, 8] (fun z i => ∃ (k : Nat) (q : Int), k ≤ x.length ∧ i = .int .i64 k ∧ z = .int .i64 q ∧ 0 ≤ q ∧ q ≤ 1048576 ∧ Hid (∀ j (hj : j < x.length), j < k → x[j].length ≤ 1048576)) (fun _ i => x.length - (intOf i).toNat)
  case atStart => exact ⟨0, _, Nat.zero_le _, rfl, rfl, by omega, by omega, fun j _ h => absurd h (by omega)⟩
  case round =>
    obtain ⟨k, q, hk1, rfl, rfl, hq0, hq1, HD⟩ := hrel
    by_cases hlt : k < x.length
    · obtain ⟨u, hu, bu⟩ := hx k hlt
      obtain ⟨a, c, rfl, hlm, _⟩ := bu
      unfold maxLen at hlm
      have b1 : (k : Int) < (x.length : Int) := by omega
      go_wp2
      · go_ret
        exact BPost.no
      · go_ret
        exact BPost.no
      · have h1 : x[k].length ≤ 1048576 := by omega
        go_round
        case rel =>
          refine ⟨k + 1, _, by omega, by go_num, rfl, by omega, by omega, fun j hj hjk => ?_⟩
          by_cases e : j = k
          · subst e; exact h1
          · exact HD.out j hj (by omega)
        case measure => simp [intOf]; omega
    · have hsm := small_of HD.out (by omega)
      clear HD hx
      go_wp2
      all_goals
        go_ret
        first
          | exact BPost.no
          | exact BPost.yes (bnd_two (by omega) hsm (by omega) (by omega))

set_option maxHeartbeats 800000 in
theorem bytes5_nil (ao : Option Addr) (cx : Nat) (po : Option Addr) (pn pc : Nat) (qo : Option Addr) (qn qc : Nat) (w : World) (hp : pn ≤ maxLen) (hq : qn ≤ maxLen) :
    Calls Try.prog 5 #[.slice ao 0 cx, .slice po pn pc, .slice qo qn qc] w (BPost w (Bnd [] [pn, qn])) := by
  unfold maxLen at hp hq
  go_enter Try.func5, Try.ntmps5
  go_wp2
  refine wp_loop_rounds 1 ?_
  rw [rounds_succ]
  go_wp2
  all_goals
    go_ret
    first
      | exact BPost.no
      | exact BPost.yes (bnd_two (Nat.zero_le _) small_nil (by omega) (by omega))

set_option maxHeartbeats 1600000 in
theorem bytes14_full (x : List Key) (S : Nat → Prop) (bx ox cx : Nat) (po : Option Addr) (pn pc : Nat) (w : World) (hxm : x.length ≤ maxLen) (hp : pn ≤ maxLen)
    (hx : ∀ i (h : i < x.length), ∃ u, w.cell? ⟨bx, ox + i, none⟩ = some u ∧ Bys S w u x[i]) :
    Calls Try.prog 14 #[.slice (some ⟨bx, ox, none⟩) x.length cx, .slice po pn pc] w (BPost w (Bnd x [pn])) := by
  unfold maxLen at hxm hp
  go_enter Try.func14, Try.ntmps14
  go_wp2
  · go_ret
    exact BPost.no
  go_loop [5, 6] (fun z i => ∃ (k : Nat) (q : Int), k ≤ x.length ∧ i = .int .i64 k ∧ z = .int .i64 q ∧ 0 ≤ q ∧ q ≤ 1048576 ∧ Hid (∀ j (hj : j < x.length), j < k → x[j].length ≤ 1048576)) (fun _ i => x.length - (intOf i).toNat)
  case atStart => exact ⟨0, _, Nat.zero_le _, rfl, rfl, by omega, by omega, fun j _ h => absurd h (by omega)⟩
  case round =>
    obtain ⟨k, q, hk1, rfl, rfl, hq0, hq1, HD⟩ := hrel
    by_cases hlt : k < x.length
    · obtain ⟨u, hu, bu⟩ := hx k hlt
      obtain ⟨a, c, rfl, hlm, _⟩ := bu
      unfold maxLen at hlm
      have b1 : (k : Int) < (x.length : Int) := by omega
      go_wp2
      · go_ret
        exact BPost.no
      · go_ret
        exact BPost.no
      · have h1 : x[k].length ≤ 1048576 := by omega
        go_round
        case rel =>
          refine ⟨k + 1, _, by omega, by go_num, rfl, by omega, by omega, fun j hj hjk => ?_⟩
          by_cases e : j = k
          · subst e; exact h1
          · exact HD.out j hj (by omega)
        case measure => simp [intOf]; omega
    · have hsm := small_of HD.out (by omega)
      clear HD hx
      go_wp2
      all_goals
        go_ret
        first
          | exact BPost.no
          | exact BPost.yes (bnd_one (by omega) hsm (by omega))

set_option maxHeartbeats 800000 in
theorem bytes14_nil (ao : Option Addr) (cx : Nat) (po : Option Addr) (pn pc : Nat) (w : World) (hp : pn ≤ maxLen) :
    Calls Try.prog 14 #[.slice ao 0 cx, .slice po pn pc] w (BPost w (Bnd [] [pn])) := by
  unfold maxLen at hp
  go_enter Try.func14, Try.ntmps14
  go_wp2
  refine wp_loop_rounds 1 ?_
  rw [rounds_succ]
  go_wp2
  all_goals
    go_ret
    first
      | exact BPost.no
      | exact BPost.yes (bnd_one (Nat.zero_le _) small_nil (by omega))

/-- zzBytes_FnSplitTwoKeysOrderFreeAgainstSortedSet -/
theorem bytes5_any {S T U : Nat → Prop} {w : World} {v u t : Value} {x : List Key} {a b : Key} (hx : Bss S w v x) (ha : Bys T w u a) (hb : Bys U w t b) :
    Calls Try.prog 5 #[v, u, t] w (BPost w (Bnd x [a.length, b.length])) := by
  obtain ⟨ao, c, rfl, hxc, hcm, hx⟩ := hx
  obtain ⟨aao, ac, rfl, ham, _⟩ := ha
  obtain ⟨bo, bc, rfl, hbm, _⟩ := hb
  by_cases ex : x = []
  · subst ex
    exact (bytes5_nil ao c aao a.length ac bo b.length bc w ham hbm)
  · obtain ⟨bx, ox, rfl, _, hc⟩ := hx ex
    exact bytes5_full x S bx ox c aao a.length ac bo b.length bc w (by omega) ham hbm hc

/-- zzBytes_FnSplitKeepsOwnCopyOfKeyAndRefusesItAgain -/
theorem bytes14_any {S T : Nat → Prop} {w : World} {v u : Value} {x : List Key} {a : Key} (hx : Bss S w v x) (ha : Bys T w u a) :
    Calls Try.prog 14 #[v, u] w (BPost w (Bnd x [a.length])) := by
  obtain ⟨ao, c, rfl, hxc, hcm, hx⟩ := hx
  obtain ⟨aao, ac, rfl, ham, _⟩ := ha
  by_cases ex : x = []
  · subst ex
    exact (bytes14_nil ao c aao a.length ac w ham)
  · obtain ⟨bx, ox, rfl, _, hc⟩ := hx ex
    exact bytes14_full x S bx ox c aao a.length ac w (by omega) ham hc

set_option maxHeartbeats 400000 in
/-- ZZnewMap -/
theorem newMap_any (ao : Option Addr) (n c : Nat) (w : World) :
    Calls Try.prog 10 #[.slice ao n c] w fun e w' => e = .returned (.agg #[.slice ao n c]) ∧ Below w.heap.size w w' := by
  go_enter Try.func10, Try.ntmps10
  go_wp2
  exact bodyPost_ret (v := .agg #[.slice ao n c]) (by simp [results, Try.results10, go_sem]) rfl ⟨rfl, (Below.refl _ _).alloc (Nat.le_refl _) _⟩

set_option maxHeartbeats 400000 in
/-- ZZsplits -/
theorem splits_any (ao : Option Addr) (n c : Nat) (w : World) :
    Calls Try.prog 13 #[.agg #[.slice ao n c]] w fun e w' => e = .returned (.slice ao n c) ∧ Below w.heap.size w w' := by
  go_enter Try.func13, Try.ntmps13
  go_wp2
  go_ret
  exact ⟨rfl, (Below.refl _ _).alloc (Nat.le_refl _) _⟩
end Go.Proofs.Qxb6627850a
