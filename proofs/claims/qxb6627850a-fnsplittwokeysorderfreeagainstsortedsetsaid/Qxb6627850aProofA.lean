/-
  SEAT b6627850a: 'Rows.FnSplitTwoKeysOrderFreeAgainstSortedSetSaid', proved. The frame is the guide's (howto/shells/bytes-and-an-int).
-/
import Derived.Test.Qxb6627850aOpen
import Derived.Test.Qxb6627850aLawA
namespace Go.Proofs.Qxb6627850a
open Go.ChangeShapes Go.WideShapes Go.ChangeAt Go.RowKit
set_option linter.unusedVariables false

theorem twoKeys_walk (a0 a1 a2 : Option Addr) (len0 cap0 len1 cap1 len2 cap2 : Nat) (x : List Key) (a b : Key) (w : World) (l0 : x.length = len0) (l1 : a.length = len1) (l2 : b.length = len2)
    (h0 : Bss (fun _ => True) w (.slice a0 len0 cap0) x) (h1 : Bys (fun _ => True) w (.slice a1 len1 cap1) a) (h2 : Bys (fun _ => True) w (.slice a2 len2 cap2) b) :
    Calls Try.prog 3 #[.slice a0 len0 cap0, .slice a1 len1 cap1, .slice a2 len2 cap2] w fun e w' => e = .returned (.bool true) ∧ Below w.heap.size w w' := by
  subst l0; subst l1; subst l2
  exact lawA x a b _ _ _ a0 a1 a2 cap0 cap1 cap2 w h0 h1 h2

set_option maxRecDepth 100000 in
theorem twoKeys_lifted (os : Os) (started : os.Started) (H : Type) (enc : TypeId × Value → H) :
    ReturnsInHanded {} Try.checked os 3 .any (Rows.fnSplitTwoKeysOrderFreeAgainstSortedSetSpec.pre6 enc Try.prog Try.f3 Rows.fnSplitTwoKeysOrderFreeAgainstSortedSetRow.domain false) (Rows.fnSplitTwoKeysOrderFreeAgainstSortedSetSpec.post enc Try.prog Try.f3 false true false false) := by
  refine returnsInHanded_of_change (C := Try.checked) own started (by kernel_rfl) Try.func3
    (ChangeSpec.witness6 (enc := enc) (C := Try.checked) false ⟨#[], #[.slice none 0 0, .slice none 0 0, .slice none 0 0], []⟩ 8 (by kernel_rfl) (by kernel_rfl) (by kernel_rfl) (by kernel_rfl)) ?_
  intro W base args ds gs before hval0 hW hcnd _
  have hval : ∀ (j : Nat) t v, Try.f3.params[j]? = some t → args[j]? = some v → Value.okWide Try.prog W .any base t v := hval0
  have hW' := hW
  obtain ⟨p, q, hA0, hV, rfl, hfz, hnd⟩ := hW
  have hA : DataW.TrodAll enc Try.prog W 0 (fun _ => true) true Try.f3.params.toList args.toList ds p := hA0
  rw [Try.params3] at hA hval
  obtain ⟨v0, vs0, d0, ds0, p0, q0, hargs, rfl, rfl, h0, r0⟩ := trodAll_cons hA
  obtain ⟨v1, vs1, d1, ds1, p1, q1, rfl, rfl, rfl, h1, r1⟩ := trodAll_cons r0
  obtain ⟨v2, vs2, d2, ds2, p2, q2, rfl, rfl, rfl, h2, r2⟩ := trodAll_cons r1
  obtain ⟨rfl, rfl, rfl⟩ := trodAll_nil r2
  obtain rfl : args = #[v0, v1, v2] := by cases args; simp_all
  obtain ⟨rfl, rfl⟩ := trodVars_none hV
  obtain ⟨a0, len0, cap0, rfl⟩ := okWide_slice Try.underlying22 (hval 0 22 v0 rfl rfl)
  obtain ⟨a1, len1, cap1, rfl⟩ := okWide_slice Try.underlying23 (hval 1 23 v1 rfl rfl)
  obtain ⟨a2, len2, cap2, rfl⟩ := okWide_slice Try.underlying23 (hval 2 23 v2 rfl rfl)
  have lt0 : ∀ x ∈ p0, x.block < W.heap.size := by obtain ⟨m, hm⟩ := h0; exact DataW.trod_lt m _ _ _ hm
  have lt1 : ∀ x ∈ p1, x.block < W.heap.size := by obtain ⟨m, hm⟩ := h1; exact DataW.trod_lt m _ _ _ hm
  have lt2 : ∀ x ∈ p2, x.block < W.heap.size := by obtain ⟨m, hm⟩ := h2; exact DataW.trod_lt m _ _ _ hm
  obtain ⟨x, lx, bx⟩ := open_keys h0
  obtain ⟨a, la, ba⟩ := open_key h1
  obtain ⟨b, lb, bb⟩ := open_key h2
  clear hA0 hval0
  refine (twoKeys_walk a0 a1 a2 len0 cap0 len1 cap1 len2 cap2 x a b W lx la lb bx ba bb).mono fun e W' ⟨he, bel⟩ => ?_
  subst he
  exact ⟨_, rfl, _, _, _, [], _, [], hW', trodAll_mk1 (shut_bool Try.underlying4 _), (trodAll_cons_mk (Below.trod laidOut (by kernel_rfl) (of_decide_eq_true (by kernel_rfl)) h0 bel lt0) (trodAll_cons_mk (Below.trod laidOut (by kernel_rfl) (of_decide_eq_true (by kernel_rfl)) h1 bel lt1) (trodAll_cons_mk (Below.trod laidOut (by kernel_rfl) (of_decide_eq_true (by kernel_rfl)) h2 bel lt2) trodAll_mk0))), rfl, bel.frame _, fun h => by cases h⟩

theorem twoKeys_over : Rows.fnSplitTwoKeysOrderFreeAgainstSortedSetRow.holds Try.pinned (OpenSpec.ofChange Rows.fnSplitTwoKeysOrderFreeAgainstSortedSetSpec) :=
  OpenClaim.holds_of_wide 3 Try.f3 rfl rfl rfl rfl rfl rfl rfl ⟨rfl, rfl, rfl, rfl, rfl⟩ rfl rfl rfl rfl rfl (by kernel_rfl) Try.func3 (by kernel_rfl)
    (of_decide_eq_true (by kernel_rfl)) (by unfold Func.isWrapper; first | (rw [if_pos (by decide +kernel)]; kernel_rfl) | (rw [if_neg (by decide +kernel)]; exact ⟨rfl, rfl⟩))
    (fun os started H enc _ => twoKeys_lifted os started H enc)

/-- THE STATEMENT -/
theorem twoKeys_proved : Rows.FnSplitTwoKeysOrderFreeAgainstSortedSetSaid := twoKeys_over
end Go.Proofs.Qxb6627850a
