/-
  SEAT b6627850a: slices.Insert of one key into a row that the call itself made: one contract for all roads.
-/
import Derived.Test.Qxb6627850aSlIns
namespace Go.Proofs.Qxb6627850a
open Go.RowKit Go.Lib
set_option linter.unusedVariables false

theorem grown_trans {a b c : World} {r : Option Nat} (h : a.grownBy b r) (k : b.grownBy c r) : a.grownBy c r :=
  ⟨k.os.trans h.os, k.tape.trans h.tape, k.output.trans h.output, Nat.le_trans h.size k.size, fun i hi hr => (k.block i (Nat.lt_of_lt_of_le hi h.size) hr).trans (h.block i hi hr)⟩
theorem grown_drew (a : World) (r : Option Nat) : a.grownBy a.drew r := ⟨rfl, rfl, rfl, Nat.le_refl _, fun _ _ _ => rfl⟩
theorem grown_setCells (g : Nat) : ∀ (vs : List Value) (o : Nat) (w : World), w.grownBy (w.setCells g o vs) (some g)
  | [], _, w => World.grownBy.refl w _
  | v :: r, o, w => by
    have h1 : w.grownBy (w.setCell ⟨g, o, none⟩ v) (some g) := ⟨rfl, rfl, rfl, by simp [World.setCell], fun k _ hk => Below.heap_setCell _ _ _ _ (fun e => hk (by rw [e]))⟩
    exact grown_trans h1 (grown_setCells g r (o + 1) _)
theorem grown_new {a b : World} {r : Option Nat} (h : a.grownBy b (some a.heap.size)) : a.grownBy b r :=
  ⟨h.os, h.tape, h.output, h.size, fun k hk _ => h.block k hk (fun e => by cases e; omega)⟩

/-- what slices.Insert leaves: the row with x at place i -/
def Inserted (base : Nat) (w w' : World) (row : Option Nat) (e : Ending) (n : Nat) (xs : List Value) : Prop :=
  ∃ g cap, e = .returned (.slice (some ⟨g, 0, none⟩) n cap) ∧ base ≤ g ∧ n ≤ cap ∧ cap ≤ maxLen ∧ (∀ j u, xs[j]? = some u → w'.cell? ⟨g, j, none⟩ = some u) ∧ w.grownBy w' row

theorem ob_cap (ao : Option Addr) (n c c' : Nat) : (Value.slice ao n c).ownBlock = (Value.slice ao n c').ownBlock := by cases ao <;> rfl

theorem inserted_of_own {base : Nat} {w w' : World} {row : Option Nat} {v' : Value} {n : Nat} {xs : List Value} (h : w'.ownsRow base 23 1 v' (n + 1) xs) (hg : w.grownBy w' row) : Inserted base w w' row (.returned v') (n + 1) xs := by
  rcases id h.2 with ⟨_, e⟩ | ⟨g, cap, cur, rfl, h2, h3, h4, h5, h6, h7⟩
  · omega
  · refine ⟨g, cap, rfl, h2, h4, h5, fun j u hj => ?_, hg⟩
    have hl := h.1
    have := (List.getElem?_eq_some_iff.1 hj).1
    rw [h.cellAt j (by omega)]
    exact hj

theorem vins_at {cs : List Value} {i : Nat} {x : Value} (hi : i ≤ cs.length) (j : Nat) : (vinsAt cs i x)[j]? = if j < i then cs[j]? else if j = i then some x else cs[j - 1]? := by
  unfold vinsAt
  by_cases h1 : j < i
  · rw [if_pos h1, List.getElem?_append_left (by simp; omega), List.getElem?_take, if_pos h1]
  · rw [if_neg h1, List.getElem?_append_right (by simp; omega), List.length_take, Nat.min_eq_left hi]
    by_cases h2 : j = i
    · subst h2; simp
    · rw [if_neg h2]
      obtain ⟨d, rfl⟩ : ∃ d, j = i + 1 + d := ⟨j - i - 1, by omega⟩
      rw [show i + 1 + d - i = d + 1 by omega, List.getElem?_cons_succ, List.getElem?_drop, show i + 1 + d - 1 = i + d by omega]

set_option maxHeartbeats 1000000 in
/-- at the end: append -/
theorem slIns_end (base n : Nat) (v x : Value) (cs : List Value) (vb : Nat) (w : World) (hown : w.ownsRow base 23 1 v n cs) (hb : base ≤ w.heap.size) (hn : n ≤ 1048577)
    (hx : w.heap[vb]? = some (.cells #[x] 23 (0, 0))) (h1 : x.oneCell' = true) :
    Calls Try.prog 20 #[v, .int .i64 n, .slice (some ⟨vb, 0, none⟩) 1 1] w fun e w' => Inserted base w w' v.ownBlock e (n + 1) (vinsAt cs n x) := by
  have hlen := hown.1
  obtain ⟨i0, hi, hz0, hz1, hz2⟩ := info_parts Try.info23
  have hxc : ∀ j u, [x][j]? = some u → w.cell? ((⟨vb, 0, none⟩ : Addr).add j) = some u := by
    intro j u hj
    match j, hj with
    | 0, hj =>
      simp at hj
      subst hj
      rw [Addr.add_lit]
      simp [World.cell?, hx]
    | j + 1, hj => simp at hj
  have hv : vinsAt cs n x = cs ++ [x] := by unfold vinsAt; rw [List.take_of_length_le (by omega), List.drop_eq_nil_of_le (by omega)]
  rw [hv]
  have hshape : ∃ ao c, v = .slice ao n c ∧ n ≤ c := by
    rcases hown.2 with ⟨e, e2⟩ | ⟨g, cap, cur, e, _, _, h, _⟩
    · exact ⟨none, 0, by rw [e, e2], by omega⟩
    · exact ⟨_, _, e, h⟩
  obtain ⟨ao, c, rfl, hnc⟩ := hshape
  go_enter Try.func20, Try.ntmps20
  go_wp2_with (at_builtin; refine wpList_append_own _ rfl _ _ 22 rfl base 23 i0 (.slice none 0 0) 1 24 Try.underlying22 hi hz0 hz1 hz2 rfl (by decide) (.slice ao n c) n cs rfl hown ⟨vb, 0, none⟩ 1 1 [x] rfl rfl hxc (by intro u hu; simp at hu; subst hu; exact h1) (by unfold maxLen; omega) (by omega) hb ?_; intro v' w1 hown' hgrow hnil)
  all_goals
    go_ret
    first | exact inserted_of_own hown' hgrow | exact inserted_of_own hown' (ob_cap ao n c n ▸ hgrow)

/-- one row of the call's own, opened -/
theorem own_open {w : World} {base n : Nat} {v : Value} {cs : List Value} (h : w.ownsRow base 23 1 v n cs) (hn : 0 < n) :
    ∃ g cap cur, v = .slice (some ⟨g, 0, none⟩) n cap ∧ base ≤ g ∧ w.heap[g]? = some (.cells cur 23 (0, 0)) ∧ n ≤ cap ∧ cap ≤ maxLen ∧ cur.size = cap ∧ cur.toList.take n = cs := by
  rcases h.2 with ⟨_, e⟩ | ⟨g, cap, cur, h1, h2, h3, h4, h5, h6, h7⟩
  · omega
  · exact ⟨g, cap, cur, h1, h2, h3, h4, h5, by simpa using h6, by simpa using h7⟩

theorem cs_at {cur : Array Value} {n : Nat} {cs : List Value} (h : cur.toList.take n = cs) (j : Nat) (v : Value) (hj : cs[j]? = some v) : cur[j]? = some v := by
  rw [← h, List.getElem?_take] at hj
  split at hj
  · simpa using hj
  · cases hj

/-- in place -/
theorem slIns_room (base n i : Nat) (v x : Value) (cs : List Value) (vb : Nat) (w : World) (hown : w.ownsRow base 23 1 v n cs) (hi : i < n) (h1c : ∀ u ∈ cs, u.oneCell' = true)
    (hx : w.heap[vb]? = some (.cells #[x] 23 (0, 0))) (h1 : x.oneCell' = true) (hne : v.ownBlock ≠ some vb) (hroom : ∀ g cap, v = .slice (some g) n cap → n + 1 ≤ cap) :
    Calls Try.prog 20 #[v, .int .i64 i, .slice (some ⟨vb, 0, none⟩) 1 1] w fun e w' => Inserted base w w' v.ownBlock e (n + 1) (vinsAt cs i x) := by
  obtain ⟨g, cap, cur, rfl, hg, hh, hnc, hcm, hsz, htk⟩ := own_open hown (by omega)
  have hroom' := hroom _ _ rfl
  have hlen : cs.length = n := by have := hown.1; omega
  have hvg : vb ≠ g := fun e => hne (by rw [e]; rfl)
  have hcell : ∀ j, w.cell? ⟨g, j, none⟩ = cur[j]? := fun j => by simp [World.cell?, hh]
  have hfz : ∀ j, w.frozen? ⟨g, j, none⟩ = false := fun j => by simp [World.frozen?, hh]
  have hsp : ∀ j, j < n + 1 → (w.cell? ⟨g, 0 + j, none⟩).isSome = true := fun j hj => by rw [Nat.zero_add, hcell, Array.getElem?_eq_getElem (by omega)]; rfl
  refine (slIns_shift g 0 n cap i vb 0 1 1 cs [x] w hi (by omega) hroom' (by unfold maxLen at hcm; omega) hvg hlen rfl (fun j u hj => by rw [Nat.zero_add, hcell]; exact cs_at htk j u hj) hsp (fun j _ => by rw [Nat.zero_add]; exact hfz j)
    (fun j u hj => by
      match j, hj with
      | 0, hj => simp at hj; subst hj; simp [World.cell?, hx]
      | j + 1, hj => simp at hj) h1c (fun u hu => by simp at hu; subst hu; exact h1) 23 23 1 cap (by simp [World.shape?, hx]) (by simp [World.shape?, hh, hsz]) (by omega) (by simp [World.frozen?, hx]) (by simp [World.frozen?, hx])).mono fun e w' ⟨he, hw⟩ => ?_
  refine ⟨g, cap, he, hg, hroom', hcm, fun j u hj => ?_, ?_⟩
  · have hsp1 : ∀ k, k < n + 1 → ((w.drew.setCells g (0 + (i + 1)) (cs.drop i)).cell? ⟨g, k, none⟩).isSome = true := fun k hk =>
      isSome_setCells g _ _ _ (fun j hj => by have := hsp (i + 1 + j) (by simp at hj; omega); rw [Nat.zero_add] at this ⊢; exact this) _ (by have := hsp k hk; rw [Nat.zero_add] at this; exact this)
    rw [vins_at (by omega)] at hj
    rw [hw]
    by_cases h3 : j < i
    · rw [if_pos h3] at hj
      rw [World.cell?_setCells_out _ _ _ _ _ (fun _ _ => Or.inl (by show j < 0 + i; omega)), World.cell?_setCells_out _ _ _ _ _ (fun _ _ => Or.inl (by show j < 0 + (i + 1); omega))]
      show w.cell? _ = _
      rw [hcell]
      exact cs_at htk j u hj
    · rw [if_neg h3] at hj
      by_cases h4 : j = i
      · subst h4
        rw [if_pos rfl] at hj
        have := World.cell?_setCells_in g [x] (0 + j) (w.drew.setCells g (0 + (j + 1)) (cs.drop j)) (fun q hq => by simp at hq; subst hq; have := hsp1 j (by omega); simpa using this) 0 (by simp)
        simp only [Nat.zero_add, Nat.add_zero] at this ⊢
        rw [this]
        exact hj
      · rw [if_neg h4] at hj
        rw [World.cell?_setCells_out _ _ _ _ _ (fun _ _ => Or.inr (by show 0 + i + 1 ≤ j; omega))]
        have hjl : j - 1 < cs.length := (List.getElem?_eq_some_iff.1 hj).1
        have := World.cell?_setCells_in g (cs.drop i) (0 + (i + 1)) w.drew (fun q hq => by have := hsp (i + 1 + q) (by simp at hq; omega); rw [Nat.zero_add] at this ⊢; exact this) (j - (i + 1)) (by simp; omega)
        rw [show 0 + (i + 1) + (j - (i + 1)) = j by omega] at this
        rw [this, ← hj]
        rw [List.getElem_drop, List.getElem?_eq_getElem hjl]
        congr 2
        omega
  · rw [hw]
    exact grown_trans (grown_trans (grown_drew _ _) (grown_setCells g _ _ _)) (grown_setCells g _ _ _)

/-- no room: a new row -/
theorem slIns_new (base n i : Nat) (v x : Value) (cs : List Value) (vb : Nat) (w : World) (hown : w.ownsRow base 23 1 v n cs) (hi : i < n) (hn : n ≤ 1048577) (hb : base ≤ w.heap.size) (h1c : ∀ u ∈ cs, u.oneCell' = true)
    (hx : w.heap[vb]? = some (.cells #[x] 23 (0, 0))) (h1 : x.oneCell' = true) (hroom : ∀ g cap, v = .slice (some g) n cap → cap < n + 1) :
    Calls Try.prog 20 #[v, .int .i64 i, .slice (some ⟨vb, 0, none⟩) 1 1] w fun e w' => Inserted base w w' v.ownBlock e (n + 1) (vinsAt cs i x) := by
  obtain ⟨g, cap, cur, rfl, hg, hh, hnc, hcm, hsz, htk⟩ := own_open hown (by omega)
  have hroom' := hroom _ _ rfl
  have hlen : cs.length = n := by have := hown.1; omega
  have hcell : ∀ j, w.cell? ⟨g, j, none⟩ = cur[j]? := fun j => by simp [World.cell?, hh]
  refine (slIns_grow g 0 n cap i vb 0 1 1 cs [x] w hi (by omega) hnc hroom' (by omega) hlen rfl (fun j u hj => by rw [Nat.zero_add, hcell]; exact cs_at htk j u hj)
    (fun j u hj => by
      match j, hj with
      | 0, hj => simp at hj; subst hj; simp [World.cell?, hx]
      | j + 1, hj => simp at hj) h1c (fun u hu => by simp at hu; subst hu; exact h1)).mono fun e w' ⟨he, hw⟩ => ?_
  have hG := grownCap_ge w (n + 1) cap 23
  have hG63 := grownCap_le_maxLen w (n + 1) cap 23 (by unfold maxLen; omega)
  obtain ⟨G, hGe⟩ : ∃ G, G = grownCap w (n + 1) cap 23 := ⟨_, rfl⟩
  rw [← hGe] at he hw hG hG63
  obtain ⟨ROW, hROW⟩ : ∃ ROW : Array Value, ROW = (cs.take i).toArray ++ Builtin.zeroCells (Value.slice none 0 0).cells (n + 1 - i) ++ Builtin.zeroCells (Value.slice none 0 0).cells (G - (n + 1)) := ⟨_, rfl⟩
  rw [← hROW] at hw
  have hRl : n + 1 ≤ ROW.size := by
    rw [hROW]
    simp [Builtin.zeroCells, Value.cells]
    omega
  have hR : ∀ j, j < i → ROW[j]? = cs[j]? := fun j hj => by
    rw [hROW, Array.append_assoc, Array.getElem?_append_left (by simp; omega)]
    simp [hj]
  obtain ⟨W1, hW1⟩ : ∃ W1, W1 = (w.alloc (.cells ROW 23)).drew := ⟨_, rfl⟩
  rw [← hW1] at hw
  have hc1 : ∀ j, W1.cell? ⟨w.heap.size, j, none⟩ = ROW[j]? := fun j => by rw [hW1]; exact World.cell?_alloc_at (w := w) ROW _ w.heap.size j rfl
  have hs1 : ∀ j, j < n + 1 → (W1.cell? ⟨w.heap.size, j, none⟩).isSome = true := fun j hj => by rw [hc1, Array.getElem?_eq_getElem (by omega)]; rfl
  have hs2 : ∀ j, j < n + 1 → ((W1.setCells w.heap.size i [x]).cell? ⟨w.heap.size, j, none⟩).isSome = true := fun j hj => isSome_setCells _ _ _ _ (fun q hq => hs1 _ (by simp at hq; omega)) _ (hs1 j hj)
  refine ⟨w.heap.size, G, he, hb, hG, hG63, fun j u hj => ?_, ?_⟩
  · rw [vins_at (by omega)] at hj
    rw [hw]
    by_cases h3 : j < i
    · rw [if_pos h3] at hj
      rw [World.cell?_setCells_out _ _ _ _ _ (fun _ _ => Or.inl (by show j < i + 1; omega))]
      show (W1.setCells w.heap.size i [x]).cell? _ = _
      rw [World.cell?_setCells_out _ _ _ _ _ (fun _ _ => Or.inl (by show j < i; omega)), hc1, hR j h3]
      exact hj
    · rw [if_neg h3] at hj
      by_cases h4 : j = i
      · subst h4
        rw [if_pos rfl] at hj
        rw [World.cell?_setCells_out _ _ _ _ _ (fun _ _ => Or.inl (by show j < j + 1; omega))]
        show (W1.setCells w.heap.size j [x]).cell? _ = _
        have := World.cell?_setCells_in w.heap.size [x] j W1 (fun q hq => by simp at hq; subst hq; exact hs1 j (by omega)) 0 (by simp)
        simp only [Nat.add_zero] at this
        rw [this]
        exact hj
      · rw [if_neg h4] at hj
        have hjl : j - 1 < cs.length := (List.getElem?_eq_some_iff.1 hj).1
        have := World.cell?_setCells_in w.heap.size (cs.drop i) (i + 1) (W1.setCells w.heap.size i [x]).drew (fun q hq => hs2 _ (by simp at hq; omega)) (j - (i + 1)) (by simp; omega)
        rw [show i + 1 + (j - (i + 1)) = j by omega] at this
        rw [this, ← hj, List.getElem_drop, List.getElem?_eq_getElem hjl]
        congr 2
        omega
  · rw [hw]
    refine grown_new (grown_trans (grown_trans (grown_trans ?_ (grown_setCells _ _ _ _)) (grown_drew _ _)) (grown_setCells _ _ _ _))
    rw [hW1]
    exact grown_trans (World.grownBy_alloc _ _ _) (grown_drew _ _)

/-- slices.Insert(s, i, x), s a row of the call's own -/
theorem slIns_any (base n i : Nat) (v x : Value) (cs : List Value) (vb : Nat) (w : World) (hown : w.ownsRow base 23 1 v n cs) (hi : i ≤ n) (hn : n ≤ 1048577) (hb : base ≤ w.heap.size) (h1c : ∀ u ∈ cs, u.oneCell' = true)
    (hx : w.heap[vb]? = some (.cells #[x] 23 (0, 0))) (h1 : x.oneCell' = true) (hne : v.ownBlock ≠ some vb) :
    Calls Try.prog 20 #[v, .int .i64 i, .slice (some ⟨vb, 0, none⟩) 1 1] w fun e w' => Inserted base w w' v.ownBlock e (n + 1) (vinsAt cs i x) := by
  by_cases hin : i = n
  · subst hin
    exact slIns_end base i v x cs vb w hown hb hn hx h1
  · obtain ⟨g, cap, cur, rfl, _⟩ := own_open hown (by omega)
    by_cases hr : n + 1 ≤ cap
    · exact slIns_room base n i _ x cs vb w hown (by omega) h1c hx h1 hne (fun g' cap' e => by cases e; exact hr)
    · exact slIns_new base n i _ x cs vb w hown (by omega) hn hb h1c hx h1 (fun g' cap' e => by cases e; omega)
end Go.Proofs.Qxb6627850a
