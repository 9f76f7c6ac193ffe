/-
  SEAT b6627850a: the walk of zzShB1Insert (the law's own model).
-/
import Derived.Test.Qxb6627850aClone
import Derived.Maps.AppendAt
namespace Go.Proofs.Qxb6627850a
open Go.RowKit Go.Lib
set_option linter.unusedVariables false

/-- the values vs read as the keys ll -/
def Bvs (S : Nat → Prop) (w : World) (vs : List Value) (ll : List Key) : Prop := vs.length = ll.length ∧ ∀ i (h : i < ll.length) (h' : i < vs.length), Bys S w vs[i] ll[i]

theorem Bvs.below {S : Nat → Prop} {w w' : World} {vs : List Value} {ll : List Key} (h : Bvs S w vs ll) (hb : Below w.heap.size w w') : Bvs S w' vs ll := ⟨h.1, fun i h1 h2 => (h.2 i h1 h2).below hb⟩
theorem Bvs.wide {S T : Nat → Prop} {w : World} {vs : List Value} {ll : List Key} (h : Bvs S w vs ll) (hST : ∀ b, b < w.heap.size → S b → T b) : Bvs T w vs ll := ⟨h.1, fun i h1 h2 => (h.2 i h1 h2).wide hST⟩

theorem vals_of {S : Nat → Prop} {w : World} {b o : Nat} {ll : List Key} (h : ∀ i (h : i < ll.length), ∃ u, w.cell? ⟨b, o + i, none⟩ = some u ∧ Bys S w u ll[i]) :
    ∃ vs : List Value, Bvs S w vs ll ∧ ∀ i (h : i < vs.length), w.cell? ⟨b, o + i, none⟩ = some vs[i] := by
  have h' : ∀ i, ∃ u : Value, (hi : i < ll.length) → (w.cell? ⟨b, o + i, none⟩ = some u ∧ Bys S w u ll[i]) := fun i => by
    by_cases hi : i < ll.length
    · obtain ⟨u, hu⟩ := h i hi
      exact ⟨u, fun _ => hu⟩
    · exact ⟨.bool false, fun k => absurd k hi⟩
  obtain ⟨f, hf⟩ : ∃ f : Nat → Value, ∀ i, (hi : i < ll.length) → (w.cell? ⟨b, o + i, none⟩ = some (f i) ∧ Bys S w (f i) ll[i]) := ⟨fun i => Classical.choose (h' i), fun i => Classical.choose_spec (h' i)⟩
  refine ⟨(List.range ll.length).map f, ⟨by simp, fun i h1 h2 => ?_⟩, fun i h1 => ?_⟩
  · simp only [List.getElem_map, List.getElem_range]
    exact (hf i h1).2
  · simp only [List.getElem_map, List.getElem_range]
    exact (hf i (by simpa using h1)).1

theorem bvs_one {S : Nat → Prop} {w : World} {vs : List Value} {ll : List Key} (h : Bvs S w vs ll) : ∀ u ∈ vs, ∃ ao n c, u = .slice ao n c := fun u hu => by
  obtain ⟨i, hi, rfl⟩ := List.getElem_of_mem hu
  obtain ⟨ao, c, e, _⟩ := h.2 i (by rw [← h.1]; exact hi) hi
  exact ⟨ao, _, c, e⟩

theorem bvs_cons {S : Nat → Prop} {w : World} {v : Value} {vs : List Value} {l : Key} {ll : List Key} (h1 : Bys S w v l) (h2 : Bvs S w vs ll) : Bvs S w (v :: vs) (l :: ll) := by
  refine ⟨by simp [h2.1], fun i a b => ?_⟩
  cases i with
  | zero => exact h1
  | succ i => exact h2.2 i (by simpa using a) (by simpa using b)
theorem bvs_append {S : Nat → Prop} {w : World} {vs us : List Value} {ll mm : List Key} (h1 : Bvs S w vs ll) (h2 : Bvs S w us mm) : Bvs S w (vs ++ us) (ll ++ mm) := by
  refine ⟨by simp [h1.1, h2.1], fun i a b => ?_⟩
  by_cases hi : i < ll.length
  · rw [List.getElem_append_left hi, List.getElem_append_left (by rw [h1.1]; exact hi)]
    exact h1.2 i hi _
  · rw [List.getElem_append_right (show vs.length ≤ i by rw [h1.1]; omega), List.getElem_append_right (show ll.length ≤ i by omega)]
    simp only [h1.1]
    exact h2.2 _ (by simp at a; omega) _
theorem bvs_take {S : Nat → Prop} {w : World} {vs : List Value} {ll : List Key} (h : Bvs S w vs ll) (p : Nat) : Bvs S w (vs.take p) (ll.take p) := by
  refine ⟨by simp [h.1], fun i a b => ?_⟩
  rw [List.getElem_take, List.getElem_take]
  exact h.2 i (by simp at a; omega) _
theorem bvs_drop {S : Nat → Prop} {w : World} {vs : List Value} {ll : List Key} (h : Bvs S w vs ll) (p : Nat) : Bvs S w (vs.drop p) (ll.drop p) := by
  refine ⟨by simp [h.1], fun i a b => ?_⟩
  rw [List.getElem_drop, List.getElem_drop]
  exact h.2 (p + i) (by simp at a; omega) _
/-- the values with one laid in at place p -/
def vinsAt (vs : List Value) (p : Nat) (v : Value) : List Value := vs.take p ++ v :: vs.drop p
theorem bvs_ins {S : Nat → Prop} {w : World} {vs : List Value} {ll : List Key} {v : Value} {k : Key} (h : Bvs S w vs ll) (hk : Bys S w v k) (p : Nat) : Bvs S w (vinsAt vs p v) (insAt ll p k) :=
  bvs_append (bvs_take h p) (bvs_cons hk (bvs_drop h p))
theorem bss_of {S : Nat → Prop} {w : World} {vs : List Value} {ll : List Key} {b o cap : Nat} (h : Bvs S w vs ll) (hS : S b) (hc : ∀ i (h : i < vs.length), w.cell? ⟨b, o + i, none⟩ = some vs[i]) (h1 : ll.length ≤ cap) (h2 : cap ≤ maxLen) :
    Bss S w (.slice (some ⟨b, o, none⟩) ll.length cap) ll :=
  ⟨_, _, rfl, h1, h2, fun _ => ⟨b, o, rfl, hS, fun i hi => ⟨vs[i]'(by rw [h.1]; exact hi), hc i _, h.2 i hi _⟩⟩⟩

theorem below_take_succ {s : List Key} {k : Key} {i : Nat} (h : i < s.length) : below (s.take (i + 1)) k = below (s.take i) k + if Lt s[i] k then 1 else 0 := by
  unfold below
  rw [List.take_succ_eq_append_getElem h, List.filter_append, List.length_append]
  congr 1
  by_cases hl : Lt s[i] k
  · rw [if_pos hl, List.filter_cons, if_pos (by simpa using hl)]; rfl
  · rw [if_neg hl, List.filter_cons, if_neg (by simpa using hl)]; rfl
theorem below_take_le (s : List Key) (k : Key) (i : Nat) : below (s.take i) k ≤ i := Nat.le_trans (below_le _ _) (List.length_take_le _ _)

/-- the values as far as place q, with one laid in at place p -/
def midTo (vs : List Value) (p q : Nat) (v : Value) : List Value := vs.take p ++ v :: (vs.take q).drop p
theorem midTo_start (vs : List Value) (p : Nat) (v : Value) : midTo vs p p v = vs.take p ++ [v] := by
  unfold midTo
  rw [List.drop_eq_nil_of_le (List.length_take_le _ _)]
theorem midTo_step {vs : List Value} {p q : Nat} {v : Value} (h : p ≤ q) (hq : q < vs.length) : midTo vs p (q + 1) v = midTo vs p q v ++ [vs[q]] := by
  unfold midTo
  rw [List.take_succ_eq_append_getElem hq, List.drop_append_of_le_length (by simp; omega)]
  simp
theorem midTo_end {vs : List Value} {p q : Nat} {v : Value} (h : vs.length ≤ q) : midTo vs p q v = vinsAt vs p v := by
  unfold midTo vinsAt
  rw [List.take_of_length_le (i := q) h]

set_option maxHeartbeats 400000 in
theorem insert_nokey (ao bo : Option Addr) (n c c' : Nat) (w : World) : Calls Try.prog 9 #[.slice ao n c, .slice bo 0 c'] w fun e w' => e = .returned (.tuple #[.slice ao n c, .bool false]) ∧ w' = w := by
  go_enter Try.func9, Try.ntmps9
  go_wp2
  go_ret2
  exact ⟨rfl, rfl⟩

set_option maxHeartbeats 1600000 in
theorem insert_full (x : List Key) (k0 : Key) (S : Nat → Prop) (b o c : Nat) (ko : Option Addr) (kc : Nat) (w : World) (h0 : 0 < x.length) (hxm : x.length ≤ 1048576) (hk0 : k0 ≠ [])
    (vs : List Value) (hvs : Bvs S w vs x) (hcell : ∀ i (h : i < vs.length), w.cell? ⟨b, o + i, none⟩ = some vs[i]) (hk : Bys S w (.slice ko k0.length kc) k0) :
    Calls Try.prog 9 #[.slice (some ⟨b, o, none⟩) x.length c, .slice ko k0.length kc] w fun e w' =>
      (ok x k0 = false ∧ e = .returned (.tuple #[.slice (some ⟨b, o, none⟩) x.length c, .bool false]) ∧ Dr w w') ∨
      (ok x k0 = true ∧ e = .returned (.tuple #[.slice (some ⟨w.heap.size, 0, none⟩) (x.length + 1) (x.length + 1), .bool true]) ∧ Below w.heap.size w w' ∧
        w'.ownsRow w.heap.size 23 1 (.slice (some ⟨w.heap.size, 0, none⟩) (x.length + 1) (x.length + 1)) (x.length + 1) (vinsAt vs (below x k0) (.slice ko k0.length kc))) := by
  have hkl : ((k0.length : Int) == 0) = false := by simpa using hk0
  have hbw : b < w.heap.size := World.block_lt_of_cell? _ _ (hcell 0 (by rw [hvs.1]; exact h0))
  go_enter Try.func9, Try.ntmps9
  go_wp2
  go_loopw [6, 7] (fun p i wr => ∃ k : Nat, k ≤ x.length ∧ i = .int .i64 k ∧ p = .int .i64 (below (x.take k) k0) ∧ Dr w wr ∧ Hid (k0 ∉ x.take k)) (fun _ i _ => x.length - (intOf i).toNat)
  case atStart => exact ⟨0, Nat.zero_le _, rfl, rfl, Dr.refl _, by simp [Hid]⟩
  case round =>
    obtain ⟨k, hk1, rfl, rfl, hdr, HD⟩ := hrel
    have hpk := below_take_le x k0 k
    by_cases hlt : k < x.length
    · have hlv : k < vs.length := by rw [hvs.1]; exact hlt
      have hu := hcell k hlv
      rw [← hdr.cell] at hu
      have bu := hdr.bys (hvs.2 k hlt hlv)
      have bk := hdr.bys hk
      have b1 : (k : Int) < (x.length : Int) := by omega
      have hbs := below_take_succ (k := k0) hlt
      have HB : Hid (below (x.take (k + 1)) k0 = below (x.take k) k0 + if Lt x[k] k0 then 1 else 0) := hbs
      clear hbs
      go_wp2_with (go_at_call 17; refine (cmp_any bu bk).mono ?_; rintro e w' ⟨rfl, hd2⟩)
      · go_ret2
        have he : compareBytes x[k] k0 = 0 := by simpa using (by assumption : (compareBytes x[k] k0 == 0) = true)
        refine Or.inl ⟨?_, rfl, hdr.trans hd2⟩
        unfold ok
        rw [← cb_eq _ _ he]
        simp
      · go_roundw
        case rel =>
          have hne : ¬ compareBytes x[k] k0 = 0 := by simpa using (by assumption : (compareBytes x[k] k0 == 0) = false)
          refine ⟨k + 1, by omega, by go_num, ?_, hdr.trans hd2, ?_⟩
          · rw [HB.out, if_pos (by assumption)]; go_num
          · have := HD.out
            rw [Hid, List.take_succ_eq_append_getElem hlt]
            simp only [List.mem_append, List.mem_singleton, not_or]
            exact ⟨this, fun e => hne (by rw [e]; exact cb_self _)⟩
        case measure => simp [intOf]; omega
      · go_roundw
        case rel =>
          have hne : ¬ compareBytes x[k] k0 = 0 := by simpa using (by assumption : (compareBytes x[k] k0 == 0) = false)
          have hge : 0 ≤ compareBytes x[k] k0 := by assumption
          refine ⟨k + 1, by omega, by go_num, ?_, hdr.trans hd2, ?_⟩
          · rw [HB.out, if_neg (by unfold Lt; omega)]; go_num
          · have := HD.out
            rw [Hid, List.take_succ_eq_append_getElem hlt]
            simp only [List.mem_append, List.mem_singleton, not_or]
            exact ⟨this, fun e => hne (by rw [e]; exact cb_self _)⟩
        case measure => simp [intOf]; omega
    · have hkx : k = x.length := by omega
      have hok : ok x k0 = true := by
        have h := HD.out
        rw [List.take_of_length_le (by omega)] at h
        unfold ok
        simp [h, hk0]
      have hpx : x.take k = x := List.take_of_length_le (by omega)
      rw [hpx] at hpk ⊢
      obtain ⟨p, hp⟩ : ∃ p, p = below x k0 := ⟨_, rfl⟩
      rw [← hp] at hpk ⊢
      obtain ⟨G, hG⟩ : ∃ G, G = wr.heap.size := ⟨_, rfl⟩
      have hGw : G = w.heap.size := by rw [hG, hdr.heap]
      obtain ⟨i0, hi, hz0, hz1, hz2⟩ := info_parts Try.info23
      clear HD hkl
      have HP : Hid (p = below x k0 ∧ k = x.length ∧ x.take k = x ∧ G = w.heap.size) := ⟨hp, hkx, hpx, hGw⟩
      clear hp hkx hpx hGw
      go_wp2_with (at_make; refine wpList_make_own _ rfl _ _ 22 rfl wr.heap.size 23 i0 (.slice none 0 0) 1 Try.underlying22 hi hz0 hz1 .i64 .i64 ((x.length : Int) + 1) (x.length + 1) rfl rfl (by omega) (by rw [hz2]; omega) (by unfold maxLen; omega) (Nat.le_refl _) ?_; intro w1 hown1 hgrow1)
      obtain ⟨wo, rfl⟩ : ∃ wo : World, wo = wr := ⟨_, rfl⟩
      have hbel1 : Below wo.heap.size wo w1 := (Below.refl _ _).grown hgrow1 (Nat.le_refl _) (fun k h => by cases h)
      have hbo : b < wo.heap.size := by rw [hdr.heap]; exact hbw
      have hcw : ∀ i (h : i < vs.length), wo.cell? ⟨b, o + i, none⟩ = some vs[i] := fun i h => by rw [hdr.cell]; exact hcell i h
      have hpn : p ≤ vs.length := by rw [hvs.1]; have := HP.out; omega
      have hvl : vs.length = x.length := hvs.1
      have HVL : Hid (vs.length = x.length) := hvl
      have hshape := bvs_one hvs
      clear hvl hgrow1 hcell hbw
      go_loopw [9, 10] (fun v i wq => ∃ t : Nat, t ≤ p ∧ i = .int .i64 t ∧ v = .slice (some ⟨wo.heap.size, 0, none⟩) t (x.length + 1) ∧ wq.ownsRow wo.heap.size 23 1 (.slice (some ⟨wo.heap.size, 0, none⟩) t (x.length + 1)) t (vs.take t) ∧ Below wo.heap.size wo wq) (fun _ i _ => p - (intOf i).toNat)
      case atStart => exact ⟨0, Nat.zero_le _, rfl, rfl, hown1, hbel1⟩
      case round =>
        obtain ⟨t, ht, rfl, rfl, hown, hbel⟩ := hrel
        by_cases hltp : t < p
        · have htv : t < vs.length := by omega
          obtain ⟨ao, n', c', hvt⟩ := hshape _ (List.getElem_mem htv)
          have hu := (hbel.cell (p := ⟨b, o + t, none⟩) hbo).trans (hcw t htv)
          rw [hvt] at hu
          have htx : (t : Int) < (x.length : Int) := by have := HVL.out; omega
          have htake : vs.take t ++ [Value.slice ao n' c'] = vs.take (t + 1) := by rw [List.take_succ_eq_append_getElem htv, hvt]
          have HT : Hid (vs.take t ++ [Value.slice ao n' c'] = vs.take (t + 1)) := htake
          clear htake hvt
          go_wp2_with (at_builtin; refine wpList_append_fits _ rfl _ _ 22 rfl wo.heap.size 23 i0 1 Try.underlying22 hi hz1 wo.heap.size t (x.length + 1) (vs.take t) rfl (hown.alloc _) ⟨wr.heap.size, 0, none⟩ 1 1 [.slice ao n' c'] rfl rfl (cell_one_new _ _ _) (by intro u hu; simp at hu; subst hu; rfl) (by omega) ?_; intro w2 hown2 hgrow2)
          go_roundw
          case rel =>
            rw [HT.out] at hown2
            exact ⟨t + 1, by omega, by go_num, rfl, hown2, (hbel.alloc hbel.size _).grown hgrow2 (by have := hbel.size; simp; omega) (fun k h => by cases h; exact Nat.le_refl _)⟩
          case measure => simp [intOf]; omega
        · have htp : t = p := by omega
          subst htp
          clear hltp ht
          go_wp2_with (at_builtin; refine wpList_append_fits _ rfl _ _ 22 rfl wo.heap.size 23 i0 1 Try.underlying22 hi hz1 wo.heap.size t (x.length + 1) (vs.take t) rfl (hown.alloc _) ⟨wr.heap.size, 0, none⟩ 1 1 [.slice ko k0.length kc] rfl rfl (cell_one_new _ _ _) (by intro u hu; simp at hu; subst hu; rfl) (by have := HVL.out; omega) ?_; intro w2 hown2 hgrow2)
          have hbel2 : Below wo.heap.size wo w2 := (hbel.alloc hbel.size _).grown hgrow2 (by have := hbel.size; simp; omega) (fun k h => by cases h; exact Nat.le_refl _)
          clear hgrow2 hbel hown
          go_loopw [9, 11] (fun v i wq => ∃ q : Nat, t ≤ q ∧ q ≤ x.length ∧ i = .int .i64 q ∧ v = .slice (some ⟨wo.heap.size, 0, none⟩) (q + 1) (x.length + 1) ∧ wq.ownsRow wo.heap.size 23 1 (.slice (some ⟨wo.heap.size, 0, none⟩) (q + 1) (x.length + 1)) (q + 1) (midTo vs t q (.slice ko k0.length kc)) ∧ Below wo.heap.size wo wq) (fun _ i _ => x.length - (intOf i).toNat)
          case atStart => exact ⟨t, Nat.le_refl _, by have := HVL.out; omega, rfl, rfl, by rw [midTo_start]; exact hown2, hbel2⟩
          case round =>
            obtain ⟨q, htq, hqx, rfl, rfl, hown, hbel⟩ := hrel
            by_cases hlq : q < x.length
            · have hqv : q < vs.length := by have := HVL.out; omega
              obtain ⟨ao, n', c', hvt⟩ := hshape _ (List.getElem_mem hqv)
              have hu := (hbel.cell (p := ⟨b, o + q, none⟩) hbo).trans (hcw q hqv)
              rw [hvt] at hu
              have hqx' : (q : Int) < (x.length : Int) := by omega
              have HT : Hid (midTo vs t q (.slice ko k0.length kc) ++ [Value.slice ao n' c'] = midTo vs t (q + 1) (.slice ko k0.length kc)) := by rw [midTo_step htq hqv, hvt]; rfl
              clear hvt
              go_wp2_with (at_builtin; refine wpList_append_fits _ rfl _ _ 22 rfl wo.heap.size 23 i0 1 Try.underlying22 hi hz1 wo.heap.size (q + 1) (x.length + 1) (midTo vs t q (.slice ko k0.length kc)) rfl (hown.alloc _) ⟨wr.heap.size, 0, none⟩ 1 1 [.slice ao n' c'] rfl rfl (cell_one_new _ _ _) (by intro u hu; simp at hu; subst hu; rfl) (by omega) ?_; intro w3 hown3 hgrow3)
              go_roundw
              case rel =>
                rw [HT.out] at hown3
                exact ⟨q + 1, by omega, by omega, by go_num, rfl, hown3, (hbel.alloc hbel.size _).grown hgrow3 (by have := hbel.size; simp; omega) (fun k h => by cases h; exact Nat.le_refl _)⟩
              case measure => simp [intOf]; omega
            · have hqe : q = x.length := by omega
              subst hqe
              have HG := HP.out.2.2.2
              have HB := HP.out.1
              go_wp2
              go_ret2
              refine Or.inr ⟨hok, ?_, ?_, ?_⟩
              · rw [hdr.heap]; rfl
              · have := (hdr.below w.heap.size).trans (hbel.mono (by rw [hdr.heap]; exact Nat.le_refl _))
                exact this
              · rw [hdr.heap, midTo_end (by rw [HVL.out]; exact Nat.le_refl _)] at hown
                rw [← HB]
                exact hown

set_option maxHeartbeats 800000 in
/-- into the empty list -/
theorem insert_empty (ao : Option Addr) (c : Nat) (ko : Option Addr) (n kc : Nat) (w : World) (hn : 0 < n) :
    Calls Try.prog 9 #[.slice ao 0 c, .slice ko n kc] w fun e w' => e = .returned (.tuple #[.slice (some ⟨w.heap.size, 0, none⟩) 1 1, .bool true]) ∧ Below w.heap.size w w' ∧
        w'.ownsRow w.heap.size 23 1 (.slice (some ⟨w.heap.size, 0, none⟩) 1 1) 1 [.slice ko n kc] := by
  have hkl : ((n : Int) == 0) = false := by simp; omega
  obtain ⟨i0, hi, hz0, hz1, hz2⟩ := info_parts Try.info23
  go_enter Try.func9, Try.ntmps9
  go_wp2
  refine wp_loop_rounds 1 ?_
  rw [rounds_succ]
  go_wp2_with (at_make; refine wpList_make_own _ rfl _ _ 22 rfl w.heap.size 23 i0 (.slice none 0 0) 1 Try.underlying22 hi hz0 hz1 .i64 .i64 1 1 rfl rfl (by omega) (by rw [hz2]; omega) (by unfold maxLen; omega) (Nat.le_refl _) ?_; intro w1 hown1 hgrow1)
  refine wp_loop_rounds 1 ?_
  rw [rounds_succ]
  have hbel1 : Below w.heap.size w w1 := (Below.refl _ _).grown hgrow1 (Nat.le_refl _) (fun k h => by cases h)
  go_wp2_with (at_builtin; refine wpList_append_fits _ rfl _ _ 22 rfl w.heap.size 23 i0 1 Try.underlying22 hi hz1 w.heap.size 0 1 [] rfl (hown1.alloc _) ⟨w1.heap.size, 0, none⟩ 1 1 [.slice ko n kc] rfl rfl (cell_one_new _ _ _) (by intro u hu; simp at hu; subst hu; rfl) (by omega) ?_; intro w2 hown2 hgrow2)
  have hbel2 : Below w.heap.size w w2 := (hbel1.alloc hbel1.size _).grown hgrow2 (by have := hbel1.size; simp; omega) (fun k h => by cases h; exact Nat.le_refl _)
  refine wp_loop_rounds 1 ?_
  rw [rounds_succ]
  go_wp2
  go_ret2
  exact ⟨rfl, hbel2, hown2⟩

/-- zzShB1Insert: the row that comes back is the old one, or lies in new memory; the keys' bytes are shared -/
theorem insert_any {S : Nat → Prop} {w : World} {v u : Value} {x : List Key} {k : Key} (hx : Bss S w v x) (hk : Bys S w u k) (hxm : x.length ≤ 1048576) :
    Calls Try.prog 9 #[v, u] w fun e w' => ∃ ao c, e = .returned (.tuple #[.slice ao (ins x k).length c, .bool (ok x k)]) ∧ Bss (fun b => S b ∨ w.heap.size ≤ b) w' (.slice ao (ins x k).length c) (ins x k) ∧ Below w.heap.size w w' := by
  obtain ⟨ko, kc, rfl, hkm, hkb⟩ := id hk
  obtain ⟨ao, c, rfl, hxc, hcm, hxb⟩ := id hx
  by_cases ek : k = []
  · subst ek
    have hno : ok x [] = false := by simp [ok]
    rw [hno, ins_of_not hno]
    exact (insert_nokey ao ko x.length c kc w).mono fun e w' ⟨he, hw⟩ => ⟨ao, c, he, by subst hw; exact hx.wide (fun _ _ h => Or.inl h), hw ▸ Below.refl _ _⟩
  · by_cases ex : x = []
    · subst ex
      have hok : ok [] k = true := by simp [ok, ek]
      have hi : ins [] k = [k] := by rw [ins_of_ok hok]; rfl
      rw [hok, hi]
      refine (insert_empty ao c ko k.length kc w (List.length_pos_iff.2 ek)).mono fun e w' ⟨he, hb, ho⟩ => ⟨_, 1, he, ?_, hb⟩
      have hkk := (hk.below hb).wide (T := fun b => S b ∨ w.heap.size ≤ b) (fun _ _ h => Or.inl h)
      exact bss_of (vs := [.slice ko k.length kc]) (bvs_cons hkk ⟨rfl, fun i h => absurd h (by simp)⟩) (Or.inr (Nat.le_refl _)) (fun i h => by rw [Nat.zero_add, ho.cellAt i (by simpa using h)]; exact List.getElem?_eq_getElem h) (Nat.le_refl _) (by decide)
    · obtain ⟨b, o, rfl, hSb, hc⟩ := hxb ex
      obtain ⟨vs, hvs, hcell⟩ := vals_of hc
      refine (insert_full x k S b o c ko kc w (List.length_pos_iff.2 ex) hxm ek vs hvs hcell hk).mono fun e w' h => ?_
      rcases h with ⟨hno, he, hd⟩ | ⟨hok, he, hb, ho⟩
      · rw [hno, ins_of_not hno]
        exact ⟨_, c, he, (hd.bss hx).wide (fun _ _ h => Or.inl h), hd.below _⟩
      · have hlen : (ins x k).length = x.length + 1 := by rw [ins_of_ok hok, length_insAt]
        rw [hok, hlen]
        refine ⟨_, _, he, ?_, hb⟩
        have hv2 : Bvs (fun b => S b ∨ w.heap.size ≤ b) w' (vinsAt vs (below x k) (.slice ko k.length kc)) (ins x k) := by
          rw [ins_of_ok hok]
          exact bvs_ins ((hvs.below hb).wide (fun _ _ h => Or.inl h)) ((hk.below hb).wide (fun _ _ h => Or.inl h)) _
        have hvl : (vinsAt vs (below x k) (.slice ko k.length kc)).length = x.length + 1 := by rw [hv2.1, hlen]
        have := bss_of (cap := x.length + 1) hv2 (Or.inr (Nat.le_refl w.heap.size)) (fun i h => by rw [Nat.zero_add, ho.cellAt i (by rw [hvl] at h; omega)]; exact List.getElem?_eq_getElem h) (by rw [hlen]; exact Nat.le_refl _) (by unfold maxLen; omega)
        rw [hlen] at this
        exact this
end Go.Proofs.Qxb6627850a
