/-
  SEAT b6627850a: slices.Clone, bytes.Clone, (Map).Split, ZZnewMap, ZZsplits.
-/
import Derived.Test.Qxb6627850aSlIns2
import Derived.Test.Qxb6627850aSearch
import Derived.Laws.AppendOwnNone
namespace Go.Proofs.Qxb6627850a
open Go.RowKit Go.Lib
set_option linter.unusedVariables false

set_option maxHeartbeats 400000 in
theorem slClone_nil (c : Nat) (w : World) : Calls Try.prog 21 #[.slice none 0 c] w fun e w' => e = .returned (.slice none 0 0) ∧ w' = w := by
  have q22 : ∀ (w : World) (a : Option Addr) (n c n' c' : Nat), (binOp .eql 22 (.slice a n c) (.slice none n' c')).run Try.prog w = .ok (.bool a.isNone) w := fun w a n c n' c' => Lib.run_eql_slice_nil w _ _ a n c n' c' Try.underlying22
  go_enter Try.func21, Try.ntmps21
  go_wp2
  go_ret
  exact ⟨rfl, rfl⟩

set_option maxHeartbeats 400000 in
theorem slClone_some (a : Addr) (n c : Nat) (vs : List Value) (w : World) (hn : n ≤ 1048577) (hl : vs.length = n) (hc : ∀ j u, vs[j]? = some u → w.cell? (a.add j) = some u) (h1 : ∀ u ∈ vs, u.oneCell' = true) :
    Calls Try.prog 21 #[.slice (some a) n c] w fun e w' => ∃ g cap, e = .returned (.slice (some ⟨g, 0, none⟩) n cap) ∧ w'.ownsRow w.heap.size 23 1 (.slice (some ⟨g, 0, none⟩) n cap) n vs ∧ Below w.heap.size w w' := by
  have q22 : ∀ (w : World) (a : Option Addr) (n c n' c' : Nat), (binOp .eql 22 (.slice a n c) (.slice none n' c')).run Try.prog w = .ok (.bool a.isNone) w := fun w a n c n' c' => Lib.run_eql_slice_nil w _ _ a n c n' c' Try.underlying22
  obtain ⟨i0, hi, hz0, hz1, hz2⟩ := info_parts Try.info23
  have hown : (w.alloc (.cells #[] 23)).ownsRow w.heap.size 23 1 (.slice (some ⟨w.heap.size, 0, none⟩) 0 0) 0 [] := World.ownsRow_lit w #[] 0 (Nat.le_refl _) (by decide) rfl
  have hc' : ∀ j u, vs[j]? = some u → (w.alloc (.cells #[] 23)).cell? (a.add j) = some u := fun j u hj => by
    have hbel : Below w.heap.size w (w.alloc (.cells #[] 23)) := (Below.refl _ _).alloc (Nat.le_refl _) _
    rw [hbel.cell (p := a.add j) (World.block_lt_of_cell? _ _ (hc j u hj))]
    exact hc j u hj
  go_enter Try.func21, Try.ntmps21
  go_wp2_with (at_builtin; refine wpList_append_own _ rfl _ _ 22 rfl w.heap.size 23 i0 (.slice none 0 0) 1 24 Try.underlying22 hi hz0 hz1 hz2 rfl (by decide) (.slice (some ⟨w.heap.size, 0, none⟩) 0 0) 0 [] rfl hown a n c vs rfl (by omega) hc' h1 (by unfold maxLen; omega) (by omega) (by simp) ?_; intro v' w1 hown' hgrow hnil)
  go_ret
  have hbel : Below w.heap.size w w1 := ((Below.refl _ _).alloc (Nat.le_refl _) _).grown hgrow (by simp) (fun k h => by cases h; exact Nat.le_refl _)
  rw [Nat.zero_add, List.nil_append] at hown'
  rcases id hown'.2 with ⟨e, e2⟩ | ⟨g, cap, cur, e, _⟩
  · exact absurd (hnil.1 e).1 (by intro h; cases h)
  · subst e
    exact ⟨g, cap, rfl, hown', hbel⟩

/-- v is a slice whose cells hold vs -/
def RowAt (w : World) (v : Value) (vs : List Value) : Prop := ∃ ao cap, v = .slice ao vs.length cap ∧ (vs ≠ [] → ∃ b o, ao = some ⟨b, o, none⟩ ∧ ∀ i (h : i < vs.length), w.cell? ⟨b, o + i, none⟩ = some vs[i])

theorem RowAt.below {w w' : World} {v : Value} {vs : List Value} (h : RowAt w v vs) (hb : Below w.heap.size w w') : RowAt w' v vs := by
  obtain ⟨ao, c, rfl, h⟩ := h
  refine ⟨ao, c, rfl, fun hne => ?_⟩
  obtain ⟨b, o, rfl, hc⟩ := h hne
  exact ⟨b, o, rfl, fun i hi => (hb.cell (p := ⟨b, o + i, none⟩) (World.block_lt_of_cell? _ _ (hc i hi))).trans (hc i hi)⟩

theorem row_of_bss {S : Nat → Prop} {w : World} {v : Value} {x : List Key} (hx : Bss S w v x) : ∃ vs, RowAt w v vs ∧ Bvs S w vs x := by
  obtain ⟨ao, c, rfl, hxc, hcm, hxb⟩ := hx
  by_cases ex : x = []
  · subst ex
    exact ⟨[], ⟨ao, c, rfl, fun h => absurd rfl h⟩, ⟨rfl, fun i h => absurd h (by simp)⟩⟩
  · obtain ⟨b, o, rfl, _, hc⟩ := hxb ex
    obtain ⟨vs, hvs, hcell⟩ := vals_of hc
    exact ⟨vs, ⟨_, c, by rw [hvs.1], fun _ => ⟨b, o, rfl, hcell⟩⟩, hvs⟩

/-- slices.Clone -/
theorem slClone_row {w : World} {v : Value} {vs : List Value} (hx : RowAt w v vs) (hn : vs.length ≤ 1048577) (h1 : ∀ u ∈ vs, u.oneCell' = true) :
    Calls Try.prog 21 #[v] w fun e w' => ∃ ao c, e = .returned (.slice ao vs.length c) ∧ w'.ownsRow w.heap.size 23 1 (.slice ao vs.length c) vs.length vs ∧ Below w.heap.size w w' := by
  obtain ⟨ao, c, rfl, hxb⟩ := hx
  cases ao with
  | none =>
    have e : vs = [] := by
      refine Decidable.byContradiction fun hne => ?_
      obtain ⟨b, o, h, _⟩ := hxb hne
      cases h
    subst e
    exact (slClone_nil c w).mono fun e w' ⟨he, hw⟩ => ⟨none, 0, he, World.ownsRow_nil _ _ _ _, hw ▸ Below.refl _ _⟩
  | some a =>
    by_cases ex : vs = []
    · subst ex
      exact (slClone_some a 0 c [] w (by omega) rfl (fun j u h => by simp at h) (fun u h => by simp at h)).mono fun e w' ⟨g, cap, he, ho, hb⟩ => ⟨_, _, he, ho, hb⟩
    · obtain ⟨b, o, ha, hcell⟩ := hxb ex
      cases ha
      refine (slClone_some ⟨b, o, none⟩ vs.length c vs w hn rfl (fun j u h => ?_) h1).mono fun e w' ⟨g, cap, he, ho, hb⟩ => ⟨_, _, he, ho, hb⟩
      obtain ⟨hj, rfl⟩ := List.getElem?_eq_some_iff.1 h
      rw [Addr.add_lit]
      exact hcell j hj

theorem slClone_at {w : World} {v : Value} {vs : List Value} (n : Nat) (hvn : vs.length = n) (hx : RowAt w v vs) (hn : n ≤ 1048577) (h1 : ∀ u ∈ vs, u.oneCell' = true) :
    Calls Try.prog 21 #[v] w fun e w' => ∃ ao c, e = .returned (.slice ao n c) ∧ w'.ownsRow w.heap.size 23 1 (.slice ao n c) n vs ∧ Below w.heap.size w w' := by
  subst hvn
  exact slClone_row hx hn h1

set_option maxHeartbeats 400000 in
theorem byClone_some (b o c : Nat) (l : Key) (w : World) (hn : l.length ≤ 1048576) (hc : ∀ j (h : j < l.length), w.cell? ⟨b, o + j, none⟩ = some (.int .u8 (l[j].toNat : Int))) :
    Calls Try.prog 22 #[.slice (some ⟨b, o, none⟩) l.length c] w fun e w' => ∃ g cap, e = .returned (.slice (some ⟨g, 0, none⟩) l.length cap) ∧ w'.ownsRow w.heap.size 5 1 (.slice (some ⟨g, 0, none⟩) l.length cap) l.length (l.map fun u => .int .u8 (u.toNat : Int)) ∧ Below w.heap.size w w' := by
  have q23 : ∀ (w : World) (a : Option Addr) (n c n' c' : Nat), (binOp .eql 23 (.slice a n c) (.slice none n' c')).run Try.prog w = .ok (.bool a.isNone) w := fun w a n c n' c' => Lib.run_eql_slice_nil w _ _ a n c n' c' Try.underlying23
  obtain ⟨i0, hi, hz0, hz1, hz2⟩ := info_parts Try.info5
  have hown : (w.alloc (.cells #[] 5)).ownsRow w.heap.size 5 1 (.slice (some ⟨w.heap.size, 0, none⟩) 0 0) 0 [] := World.ownsRow_lit w #[] 0 (Nat.le_refl _) (by decide) rfl
  have hc' : ∀ j u, (l.map fun u => Value.int .u8 (u.toNat : Int))[j]? = some u → (w.alloc (.cells #[] 5)).cell? ((⟨b, o, none⟩ : Addr).add j) = some u := fun j u hj => by
    obtain ⟨hjl, rfl⟩ := List.getElem?_eq_some_iff.1 hj
    have hjl' : j < l.length := by simpa using hjl
    have hbel : Below w.heap.size w (w.alloc (.cells #[] 5)) := (Below.refl _ _).alloc (Nat.le_refl _) _
    rw [Addr.add_lit, hbel.cell (p := ⟨b, o + j, none⟩) (World.block_lt_of_cell? _ _ (hc j hjl')), hc j hjl']
    simp
  have h1 : ∀ u ∈ (l.map fun u => Value.int .u8 (u.toNat : Int)), u.oneCell' = true := fun u hu => by
    obtain ⟨x, _, rfl⟩ := List.mem_map.1 hu
    rfl
  have hml : (l.map fun u => Value.int .u8 (u.toNat : Int)).length = l.length * 1 := by simp
  generalize hnews : (l.map fun u => Value.int .u8 (u.toNat : Int)) = news at hc' h1 hml ⊢
  go_enter Try.func22, Try.ntmps22
  go_wp2_with (at_builtin; refine wpList_append_own _ rfl _ _ 23 rfl w.heap.size 5 i0 (.int .u8 0) 1 1 Try.underlying23 hi hz0 hz1 hz2 rfl (by decide) (.slice (some ⟨w.heap.size, 0, none⟩) 0 0) 0 [] rfl hown ⟨b, o, none⟩ l.length c news rfl hml hc' h1 (by unfold maxLen; omega) (by omega) (by simp) ?_; intro v' w1 hown' hgrow hnil)
  go_ret
  have hbel : Below w.heap.size w w1 := ((Below.refl _ _).alloc (Nat.le_refl _) _).grown hgrow (by simp) (fun k h => by cases h; exact Nat.le_refl _)
  rw [Nat.zero_add, List.nil_append] at hown'
  rcases id hown'.2 with ⟨e, e2⟩ | ⟨g, cap, cur, e, _⟩
  · exact absurd (hnil.1 e).1 (by intro h; cases h)
  · subst e
    exact ⟨g, cap, rfl, hown', hbel⟩

/-- bytes.Clone of a key that is not empty -/
theorem byClone_any {S : Nat → Prop} {w : World} {v : Value} {l : Key} (h : Bys S w v l) (h0 : l ≠ []) (hn : l.length ≤ 1048576) :
    Calls Try.prog 22 #[v] w fun e w' => ∃ ao c, e = .returned (.slice ao l.length c) ∧ Bys (fun b => w.heap.size ≤ b) w' (.slice ao l.length c) l ∧ Below w.heap.size w w' := by
  obtain ⟨ao, c, rfl, hm, h⟩ := h
  obtain ⟨b, o, rfl, _, hc⟩ := h h0
  refine (byClone_some b o c l w hn hc).mono fun e w' ⟨g, cap, he, ho, hb⟩ => ⟨_, _, he, ⟨_, _, rfl, hm, fun _ => ⟨g, 0, rfl, (ho.lt g rfl).1, fun j hj => ?_⟩⟩, hb⟩
  rw [Nat.zero_add, ho.cellAt j (by omega), List.getElem?_map, List.getElem?_eq_getElem hj]
  rfl

theorem search_at {S T : Nat → Prop} {w : World} {v u : Value} {x : List Key} {k : Key} (f : Bool) (p : Nat) (hf : x.contains k = f) (hp : below x k = p) (hx : Bss S w v x) (hk : Bys T w u k) (hxm : x.length ≤ 1048576) (hs : Sorted x) :
    Calls Try.prog 18 #[v, u, .func (.func 19) #[] #[]] w fun e w' => e = .returned (.tuple #[.int .i64 p, .bool f]) ∧ w' = w := by
  subst hf; subst hp
  exact search_any hx hk hxm hs

set_option maxHeartbeats 1000000 in
/-- refused: it is there -/
theorem split_there {S T : Nat → Prop} {w : World} {ao ko : Option Addr} {c kc : Nat} {x : List Key} {k : Key} (hx : Bss S w (.slice ao x.length c) x) (hk : Bys T w (.slice ko k.length kc) k) (hxm : x.length ≤ 1048576) (hs : Sorted x) (hc : x.contains k = true) :
    Calls Try.prog 11 #[.agg #[.slice ao x.length c], .slice ko k.length kc] w fun e w' => e = .returned (.tuple #[.agg #[.slice ao x.length c], .bool false]) ∧ Below w.heap.size w w' := by
  have hb0 : Below w.heap.size w ((w.alloc (.cells #[.slice ao x.length c] 31)).alloc (.cells #[.slice none 0 0] 31)) := ((Below.refl _ _).alloc (Nat.le_refl _) _).alloc (by simp) _
  have hx' := hx.below hb0
  have hk' := hk.below hb0
  have hsr := search_at true _ hc rfl hx' hk' hxm hs
  generalize below x k = p at hsr
  clear hc hs
  go_enter Try.func11, Try.ntmps11
  go_wp2_with (go_at_call 18; refine hsr.mono ?_; rintro e w' ⟨rfl, rfl⟩)
  exact bodyPost_ret (v := .tuple #[.agg #[.slice ao x.length c], .bool false]) (by simp [results, Try.results11, go_sem]) rfl ⟨rfl, ((Below.refl _ _).alloc (Nat.le_refl _) _).alloc (by simp) _⟩

set_option maxHeartbeats 1000000 in
/-- refused: the empty key -/
theorem split_empty {S T : Nat → Prop} {w : World} {ao ko : Option Addr} {c kc : Nat} {x : List Key} (hx : Bss S w (.slice ao x.length c) x) (hk : Bys T w (.slice ko 0 kc) []) (hxm : x.length ≤ 1048576) (hs : Sorted x) (hc : x.contains [] = false) :
    Calls Try.prog 11 #[.agg #[.slice ao x.length c], .slice ko 0 kc] w fun e w' => e = .returned (.tuple #[.agg #[.slice ao x.length c], .bool false]) ∧ Below w.heap.size w w' := by
  have hb0 : Below w.heap.size w ((w.alloc (.cells #[.slice ao x.length c] 31)).alloc (.cells #[.slice none 0 0] 31)) := ((Below.refl _ _).alloc (Nat.le_refl _) _).alloc (by simp) _
  have hx' := hx.below hb0
  have hk' := hk.below hb0
  have hsr := search_at false _ hc rfl hx' hk' hxm hs
  generalize below x [] = p at hsr
  clear hc hs
  go_enter Try.func11, Try.ntmps11
  go_wp2_with (go_at_call 18; refine hsr.mono ?_; rintro e w' ⟨rfl, rfl⟩)
  exact bodyPost_ret (v := .tuple #[.agg #[.slice ao x.length c], .bool false]) (by simp [results, Try.results11, go_sem]) rfl ⟨rfl, ((Below.refl _ _).alloc (Nat.le_refl _) _).alloc (by simp) _⟩

set_option maxHeartbeats 2000000 in
/-- taken -/
theorem split_yes {S T : Nat → Prop} {w : World} {ao ko : Option Addr} {c kc : Nat} {x : List Key} {k : Key} (hx : Bss S w (.slice ao x.length c) x) (hk : Bys T w (.slice ko k.length kc) k) (hxm : x.length ≤ 1048576) (hkm : k.length ≤ 1048576) (hs : Sorted x) (hc : x.contains k = false) (hk0 : k ≠ []) :
    Calls Try.prog 11 #[.agg #[.slice ao x.length c], .slice ko k.length kc] w fun e w' => ∃ ao' c', e = .returned (.tuple #[.agg #[.slice ao' (x.length + 1) c'], .bool true]) ∧ Bss (fun b => S b ∨ w.heap.size ≤ b) w' (.slice ao' (x.length + 1) c') (ins x k) ∧ Below w.heap.size w w' := by
  have hok : ok x k = true := by unfold ok; rw [hc]; simp [hk0]
  have hins := ins_of_ok hok
  have hkl : ((k.length : Int) == 0) = false := by simpa using hk0
  have hb0 : Below w.heap.size w ((w.alloc (.cells #[.slice ao x.length c] 31)).alloc (.cells #[.slice none 0 0] 31)) := ((Below.refl _ _).alloc (Nat.le_refl _) _).alloc (by simp) _
  have hx' := hx.below hb0
  have hk' := hk.below hb0
  have hsr := search_at false _ hc rfl hx' hk' hxm hs
  obtain ⟨vs, hrow, hvs⟩ := row_of_bss hx
  have hrow' := hrow.below hb0
  have h1c : ∀ u ∈ vs, u.oneCell' = true := fun u hu => by obtain ⟨_, _, _, rfl⟩ := bvs_one hvs u hu; rfl
  have hvl : vs.length = x.length := hvs.1
  have hple := below_le x k
  generalize below x k = p at hsr hins hple
  have HI : Hid (ins x k = insAt x p k) := hins
  have hcl := slClone_at x.length hvl hrow' (by omega) h1c
  have HV : Hid (Bvs S w vs x) := hvs
  clear hc hs hins hok hvs hvl
  go_enter Try.func11, Try.ntmps11
  go_wp2_with (go_at_call 18; refine hsr.mono ?_; rintro e w' ⟨rfl, rfl⟩)
  refine hcl.mono ?_
  rintro e w1 ⟨ao1, c1, rfl, hown, hb1⟩
  have hsz0 : ((w.alloc (.cells #[.slice ao x.length c] 31)).alloc (.cells #[.slice none 0 0] 31)).heap.size = w.heap.size + 2 := by simp
  have c1a : w1.cell? ⟨w.heap.size + 1, 0, none⟩ = some (.slice none 0 0) := by rw [hb1.cell (p := ⟨w.heap.size + 1, 0, none⟩) (by rw [hsz0]; show w.heap.size + 1 < _; omega)]; simp
  have c1b : w1.frozen? ⟨w.heap.size + 1, 0, none⟩ = false := by rw [hb1.frozen (p := ⟨w.heap.size + 1, 0, none⟩) (by rw [hsz0]; show w.heap.size + 1 < _; omega)]; simp
  have hk1 := hk'.below hb1
  have hbw1 : Below w.heap.size w w1 := hb0.trans (hb1.mono (by rw [hsz0]; omega))
  have hs1 := hb1.size
  rw [hsz0] at hs1 hown
  have hlt1 := hown.lt
  clear hk' hx' hb1 hb0 hsr hsz0 hrow hrow' hcl
  go_wp2_with fail
  refine (byClone_any hk1 hk0 hkm).mono ?_
  rintro e w2 ⟨ao2, c2, rfl, hkn, hb2⟩
  have hs2 := hb2.size
  have c2a := (hb2.cell (p := ⟨w.heap.size + 1, 0, none⟩) (by show w.heap.size + 1 < _; omega)).trans c1a
  have c2b := (hb2.frozen (p := ⟨w.heap.size + 1, 0, none⟩) (by show w.heap.size + 1 < _; omega)).trans c1b
  have hown2 := hown.kept (w' := w2) (row := none) ⟨hb2.os, hb2.tape, hb2.output, hb2.size, fun k hk _ => hb2.block k hk⟩ (by cases ao1; exact Or.inl rfl; exact Or.inr (by simp [Value.ownBlock]))
  have hbw2 : Below w.heap.size w w2 := hbw1.trans (hb2.mono (by omega))
  clear hown c1a c1b hk1 hb2 hbw1
  go_wp2_with fail
  have hnew : (w2.alloc (.cells #[.slice ao2 k.length c2] 23)).heap[w2.heap.size]? = some (.cells #[.slice ao2 k.length c2] 23 (0, 0)) := heap_alloc_new w2 _
  have hne : (Value.slice ao1 x.length c1).ownBlock ≠ some w2.heap.size := fun e => by have := (hlt1 _ e).2; omega
  refine (slIns_any (w.heap.size + 2) x.length p _ (.slice ao2 k.length c2) vs w2.heap.size (w2.alloc (.cells #[.slice ao2 k.length c2] 23)) (hown2.alloc _) hple (by omega) (by simp; omega) h1c hnew rfl hne).mono ?_
  rintro e w3 ⟨g, cap, rfl, hg, hgc, hgm, hcells, hgrow⟩
  have hs3 : w2.heap.size + 1 ≤ w3.heap.size := by have := hgrow.size; simpa using this
  have hkeep : ∀ b, b < w2.heap.size → (b < w.heap.size + 2 ∨ w1.heap.size ≤ b) → w3.heap[b]? = w2.heap[b]? := fun b hb hor => by
    rw [hgrow.block b (by simp; omega) (fun e => by have := hlt1 b e.symm; omega)]
    exact Below.heap_alloc _ _ _ hb
  have c3a : w3.cell? ⟨w.heap.size + 1, 0, none⟩ = some (.slice none 0 0) := (World.cell?_of_block (w := w2) (hkeep _ (by show w.heap.size + 1 < _; omega) (Or.inl (by show w.heap.size + 1 < _; omega)))).trans c2a
  have c3b : w3.frozen? ⟨w.heap.size + 1, 0, none⟩ = false := (World.frozen?_of_block (w := w2) (hkeep _ (by show w.heap.size + 1 < _; omega) (Or.inl (by show w.heap.size + 1 < _; omega)))).trans c2b
  have hk3 : Bys (fun b => w1.heap.size ≤ b) w3 (.slice ao2 k.length c2) k := hkn.kept (fun b hS hb => hkeep b hb (Or.inr hS))
  have hbw3 : Below w.heap.size w w3 := hbw2.trans ⟨hgrow.os, hgrow.tape, hgrow.output, by omega, fun b hb => hkeep b (by omega) (Or.inl (by omega))⟩
  clear hgrow hkeep c2a c2b hown2 hbw2 hne hnew hkn
  go_wp2_with fail
  refine bodyPost_ret (v := .tuple #[.agg #[.slice (some ⟨g, 0, none⟩) (x.length + 1) cap], .bool true]) (by simp [results, Try.results11, go_sem, c3a]) rfl ⟨_, cap, rfl, ?_, hbw3.setCell (by show w.heap.size ≤ w.heap.size + 1; omega) _⟩
  obtain ⟨V, hV⟩ : ∃ V, V = Value.slice (some ⟨g, 0, none⟩) (x.length + 1) cap := ⟨_, rfl⟩
  have hoth : ∀ b, b ≠ w.heap.size + 1 → (w3.setCell ⟨w.heap.size + 1, 0, none⟩ V).heap[b]? = w3.heap[b]? := fun b hb => Below.heap_setCell _ _ _ _ hb
  have hbw4 : Below w.heap.size w (w3.setCell ⟨w.heap.size + 1, 0, none⟩ V) := hbw3.setCell (by show w.heap.size ≤ w.heap.size + 1; omega) _
  have hv4 : Bvs (fun b => S b ∨ w.heap.size ≤ b) (w3.setCell ⟨w.heap.size + 1, 0, none⟩ V) vs x := (HV.out.below hbw4).wide (fun _ _ h => Or.inl h)
  have hk4 : Bys (fun b => S b ∨ w.heap.size ≤ b) (w3.setCell ⟨w.heap.size + 1, 0, none⟩ V) (.slice ao2 k.length c2) k := (hk3.kept (fun b hS _ => hoth b (by omega))).wide (fun b _ h => Or.inr (by omega))
  have hb4 := bvs_ins hv4 hk4 p
  have hlen : (insAt x p k).length = x.length + 1 := length_insAt _ _ _
  have := bss_of (cap := cap) (b := g) (o := 0) hb4 (Or.inr (by omega)) (fun i hi => by
    rw [Nat.zero_add, World.cell?_of_block (w := w3) (hoth g (by omega))]
    exact hcells i _ (List.getElem?_eq_getElem hi)) (by rw [hlen]; exact hgc) hgm
  rw [hlen] at this
  rw [HI.out, ← hV]
  rw [← hV] at this
  exact this

/-- (Map).Split -/
theorem split_any {S T : Nat → Prop} {w : World} {ao : Option Addr} {c : Nat} {u : Value} {x : List Key} {k : Key} (hx : Bss S w (.slice ao x.length c) x) (hk : Bys T w u k) (hxm : x.length ≤ 1048576) (hkm : k.length ≤ 1048576) (hs : Sorted x) :
    Calls Try.prog 11 #[.agg #[.slice ao x.length c], u] w fun e w' => ∃ ao' c', e = .returned (.tuple #[.agg #[.slice ao' (ins x k).length c'], .bool (ok x k)]) ∧ Bss (fun b => S b ∨ w.heap.size ≤ b) w' (.slice ao' (ins x k).length c') (ins x k) ∧ Below w.heap.size w w' := by
  obtain ⟨ko, kc, rfl, _⟩ := id hk
  cases hc : x.contains k with
  | true =>
    have hno : ok x k = false := by unfold ok; rw [hc]; simp
    rw [hno, ins_of_not hno]
    exact (split_there hx hk hxm hs hc).mono fun e w' ⟨he, hb⟩ => ⟨ao, c, he, (hx.below hb).wide (fun _ _ h => Or.inl h), hb⟩
  | false =>
    by_cases ek : k = []
    · subst ek
      have hno : ok x [] = false := by simp [ok]
      rw [hno, ins_of_not hno]
      exact (split_empty hx hk hxm hs hc).mono fun e w' ⟨he, hb⟩ => ⟨ao, c, he, (hx.below hb).wide (fun _ _ h => Or.inl h), hb⟩
    · have hok : ok x k = true := by unfold ok; rw [hc]; simp [ek]
      have hlen : (ins x k).length = x.length + 1 := by rw [ins_of_ok hok, length_insAt]
      rw [hok, hlen]
      exact split_yes hx hk hxm hkm hs hc ek
end Go.Proofs.Qxb6627850a
