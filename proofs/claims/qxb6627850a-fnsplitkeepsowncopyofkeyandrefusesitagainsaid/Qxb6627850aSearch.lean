/-
  SEAT b6627850a: bytes.Compare (the model's entry), slices.BinarySearchFunc over it.
-/
import Derived.Test.Qxb6627850aReads2
import Derived.Lib.BytesEntry
namespace Go.Proofs.Qxb6627850a
open Go.RowKit Go.Lib
set_option linter.unusedVariables false

theorem bytesOf_back (x : Key) : Lib.bytesOf (x.map fun u => (u.toNat : Int)) = x := by
  induction x with
  | nil => rfl
  | cons a l ih =>
    unfold Lib.bytesOf at ih ⊢
    simp only [List.map_cons, ih]
    congr 1
    simp

theorem run_bytesOf {P : Program} {S : Nat → Prop} {w : World} {v : Value} {x : Key} (h : Bys S w v x) : (Extern.Bytes.bytesOf v).run P w = .ok ⟨x.toArray⟩ w := by
  obtain ⟨ao, c, rfl, hm, h⟩ := h
  cases ao with
  | none =>
    have e : x = [] := by
      refine Decidable.byContradiction fun hne => ?_
      obtain ⟨b, o, h, _⟩ := h hne
      cases h
    subst e
    rfl
  | some a =>
    have hl := run_loadBytesX (P := P) w (x.map fun u => (u.toNat : Int)) a .empty (fun j y hj => by
      rw [List.getElem?_map] at hj
      obtain ⟨u, hu, rfl⟩ := Option.map_eq_some_iff.1 hj
      obtain ⟨hjl, rfl⟩ := List.getElem?_eq_some_iff.1 hu
      obtain ⟨b, o, ha, _, hc⟩ := h (fun e => by subst e; simp at hjl)
      cases ha
      rw [Addr.add_lit]
      exact hc j hjl)
    rw [bytesOf_back, List.length_map] at hl
    show (Extern.Bytes.loadBytes a x.length .empty).run P w = _
    rw [hl]
    congr 1
    apply ByteArray.ext
    show (#[] : Array UInt8) ++ x.toArray = x.toArray
    simp

theorem run_compare {P : Program} {S T : Nat → Prop} {w : World} {v u : Value} {x y : Key} (hx : Bys S w v x) (hy : Bys T w u y) :
    (Extern.BytealgCompare.compare #[v, u]).run P w = .ok (.int .i64 (compareBytes x y)) w := by
  change Sem.run P (do pure (goInt (Extern.BytealgCompare.cmp (← Extern.Bytes.bytesOf v) (← Extern.Bytes.bytesOf u)))) w = _
  simp only [Sem.run_bind, Sem.run_pure, run_bytesOf hx, run_bytesOf hy, Result.andThen]
  rw [cmp_eq]
  rfl

set_option maxHeartbeats 400000 in
/-- bytes.Compare -/
theorem compare_any {S T : Nat → Prop} {w : World} {v u : Value} {x y : Key} (hx : Bys S w v x) (hy : Bys T w u y) :
    Calls Try.prog 19 #[v, u] w fun e w' => e = .returned (.int .i64 (compareBytes x y)) ∧ w' = w := by
  go_enter Try.func19, Try.ntmps19
  go_wp2
  rw [run_callFunc_extern Try.func23 (by kernel_rfl) (by kernel_rfl) (by kernel_rfl) (e := Extern.BytealgCompare.compare) (by kernel_rfl), run_compare hx hy]
  simp only [Result.andThen]
  rw [Oper.upon_value]
  go_wp2
  go_ret
  exact ⟨rfl, rfl⟩

/-- what the search knows between its rounds -/
def Parts (x : List Key) (k : Key) (a b : Nat) : Prop := (∀ t (h : t < x.length), t < a → Lt x[t] k) ∧ (∀ t (h : t < x.length), b ≤ t → ¬ Lt x[t] k)

theorem parts_up {x : List Key} {k : Key} {a b m : Nat} (hs : Sorted x) (h : Parts x k a b) (hm : m < x.length) (hl : compareBytes x[m] k < 0) : Parts x k (m + 1) b := by
  refine ⟨fun t ht htm => ?_, h.2⟩
  by_cases e : t = m
  · subst e; exact hl
  · exact lt_trans (hs t m (by omega) hm) hl
theorem parts_down {x : List Key} {k : Key} {a b m : Nat} (hs : Sorted x) (h : Parts x k a b) (hm : m < x.length) (hl : ¬ compareBytes x[m] k < 0) : Parts x k a m := by
  refine ⟨h.1, fun t ht htm hlt => ?_⟩
  by_cases e : t = m
  · subst e; exact hl hlt
  · exact hl (lt_trans (hs m t (by omega) ht) hlt)
theorem found_at {x : List Key} {k : Key} {p : Nat} (hs : Sorted x) (h : Parts x k p p) (hp : p < x.length) : (compareBytes x[p] k == 0) = x.contains k := by
  rw [Bool.eq_iff_iff]
  simp only [beq_iff_eq, List.contains_iff_mem]
  rw [cb_zero]
  constructor
  · intro e; rw [← e]; exact List.getElem_mem hp
  · intro hk
    obtain ⟨t, ht, rfl⟩ := List.getElem_of_mem hk
    rcases Nat.lt_trichotomy t p with e | e | e
    · exact absurd (h.1 t ht e) (lt_irrefl _)
    · subst e; rfl
    · exact absurd (hs p t e ht) (h.2 p hp (Nat.le_refl _))
theorem found_end {x : List Key} {k : Key} {p : Nat} (h : Parts x k p p) (hp : x.length ≤ p) : false = x.contains k := by
  refine Eq.symm (Bool.eq_false_iff.2 fun hc => ?_)
  obtain ⟨t, ht, rfl⟩ := List.getElem_of_mem (List.contains_iff_mem.1 hc)
  exact absurd (h.1 t ht (by omega)) (lt_irrefl _)

theorem ret_ib {a a' : Int} {b b' : Bool} (h : a = a') (h2 : b = b') : Ending.returned (.tuple #[.int .i64 a, .bool b]) = .returned (.tuple #[.int .i64 a', .bool b']) := by rw [h, h2]

set_option maxHeartbeats 800000 in
theorem search_full (x : List Key) (k : Key) (S T : Nat → Prop) (bx ox cx : Nat) (kv : Value) (w : World) (hxm : x.length ≤ 1048576) (hs : Sorted x)
    (hx : ∀ i (h : i < x.length), ∃ u, w.cell? ⟨bx, ox + i, none⟩ = some u ∧ Bys S w u x[i]) (hk : Bys T w kv k) :
    Calls Try.prog 18 #[.slice (some ⟨bx, ox, none⟩) x.length cx, kv, .func (.func 19) #[] #[]] w fun e w' => e = .returned (.tuple #[.int .i64 (below x k), .bool (x.contains k)]) ∧ w' = w := by
  have HS : Hid (Sorted x) := hs
  clear hs
  go_enter Try.func18, Try.ntmps18
  go_wp2
  go_loop [9, 10] (fun i j => ∃ a b : Nat, a ≤ b ∧ b ≤ x.length ∧ i = .int .i64 a ∧ j = .int .i64 b ∧ Hid (Parts x k a b)) (fun i j => (intOf j - intOf i).toNat)
  case atStart => exact ⟨0, x.length, Nat.zero_le _, Nat.le_refl _, rfl, rfl, ⟨fun t _ h => absurd h (by omega), fun t h h' => absurd h (by omega)⟩⟩
  case round =>
    obtain ⟨a, b, hab, hb, rfl, rfl, HP⟩ := hrel
    by_cases hlt : a < b
    · have hm : (a + b) / 2 < x.length := by omega
      obtain ⟨u, hu, bu⟩ := hx ((a + b) / 2) hm
      go_wp2_with (go_at_call 19; refine (compare_any bu hk).mono ?_; rintro e w' ⟨rfl, rfl⟩)
      · go_round
        case rel => exact ⟨(a + b) / 2 + 1, b, by omega, hb, by go_num, rfl, parts_up HS.out HP.out hm (by assumption)⟩
        case measure => simp [intOf]; omega
      · go_round
        case rel => exact ⟨a, (a + b) / 2, by omega, by omega, rfl, by go_num, parts_down HS.out HP.out hm (by first | assumption | omega)⟩
        case measure => simp [intOf]; omega
    · have HQ : Hid (Parts x k a a) := ⟨HP.out.1, fun t ht hta => HP.out.2 t ht (by omega)⟩
      clear HP
      by_cases hla : a < x.length
      · obtain ⟨u, hu, bu⟩ := hx a hla
        go_wp2_with (go_at_call 19; refine (compare_any bu hk).mono ?_; rintro e w' ⟨rfl, rfl⟩)
        go_ret2
        exact ⟨ret_ib (by rw [below_of_parts (by omega) HQ.out.1 HQ.out.2]) (found_at HS.out HQ.out hla), rfl⟩
      · have hd : decide ((a : Int) < (x.length : Int)) = false := by simp; omega
        go_wp2
        go_ret2
        exact ⟨ret_ib (by rw [below_of_parts (by omega) HQ.out.1 HQ.out.2]) (by have := found_end HQ.out (by omega); simpa using this), rfl⟩

set_option maxHeartbeats 400000 in
theorem search_nil (ao : Option Addr) (cx : Nat) (kv fv : Value) (w : World) :
    Calls Try.prog 18 #[.slice ao 0 cx, kv, fv] w fun e w' => e = .returned (.tuple #[.int .i64 0, .bool false]) ∧ w' = w := by
  go_enter Try.func18, Try.ntmps18
  go_wp2
  refine wp_loop_rounds 1 ?_
  rw [rounds_succ]
  go_wp2
  go_ret2
  exact ⟨rfl, rfl⟩

/-- slices.BinarySearchFunc(s, k, bytes.Compare), s sorted -/
theorem search_any {S T : Nat → Prop} {w : World} {v u : Value} {x : List Key} {k : Key} (hx : Bss S w v x) (hk : Bys T w u k) (hxm : x.length ≤ 1048576) (hs : Sorted x) :
    Calls Try.prog 18 #[v, u, .func (.func 19) #[] #[]] w fun e w' => e = .returned (.tuple #[.int .i64 (below x k), .bool (x.contains k)]) ∧ w' = w := by
  obtain ⟨ao, c, rfl, hxc, _, hx⟩ := hx
  by_cases ex : x = []
  · subst ex
    exact search_nil ao c u _ w
  · obtain ⟨bx, ox, rfl, _, hcx⟩ := hx ex
    exact search_full x k S T bx ox c u w hxm hs hcx hk
end Go.Proofs.Qxb6627850a
