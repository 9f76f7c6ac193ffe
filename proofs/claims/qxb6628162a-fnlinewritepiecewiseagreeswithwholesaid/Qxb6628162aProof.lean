/-
  SEAT b6628162a: 'Rows.FnLineWritePiecewiseAgreesWithWholeSaid', proved. The frame is the guide's (howto/shells/bytes-and-an-int).
-/
import Derived.Test.Qxb6628162aRows
import Derived.Test.Qxb6628162aLaw
import Derived.ProofKit
import Derived.OpenShut
import Derived.ChangeOld
import Derived.SliceStrings
namespace Go.Proofs.Qxb6628162a
open Go.ChangeShapes Go.WideShapes Go.ChangeAt Go.RowKit
set_option linter.unusedVariables false

theorem own : ownKnob Try.prog.godebug = none := by kernel_rfl
theorem laidOut : laidOutB Try.prog = true := by kernel_rfl
theorem Try.cells9 : Try.prog.cellsOf 9 = 1 := by kernel_rfl

theorem str_back (s : ByteArray) : str s.data.toList = s := by
  apply ByteArray.ext
  apply Array.toList_inj.1
  rfl

/-- an argument of type []string -/
theorem open_pieces {H : Type} {enc : TypeId × Value → H} {W : World} {ao : Option Addr} {len cap : Nat} {d : DataW H} {p : List MemPlace} (h : DataW.Trod enc Try.prog W 0 (fun _ => true) true 22 (.slice ao len cap) d p) :
    ∃ ss : List Text, ss.length = len ∧ Strs W (.slice ao len cap) ss := by
  obtain ⟨fuel, hf⟩ := h
  rcases open_strings Try.underlying22 Try.underlying9 Try.cells9 hf with ⟨hcs, _⟩ | ⟨a, l, c, bs, hcs, _, hl, hm, hz, _, hcell, hws⟩
  · simp [Value.cells] at hcs
    obtain ⟨rfl, rfl, rfl⟩ := hcs
    exact ⟨[], rfl, none, 0, rfl, by decide, fun s hs => absurd hs (by simp), fun h => absurd rfl h⟩
  · simp [Value.cells] at hcs
    obtain ⟨rfl, rfl, rfl⟩ := hcs
    simp only [if_true] at hz
    have hlen : ((bs.take len).map fun s => s.data.toList).length = len := by simp; omega
    refine ⟨(bs.take len).map fun s => s.data.toList, hlen, some a, cap, by rw [hlen], by omega, fun s hs => ?_, fun hne => ?_⟩
    · obtain ⟨b, hb, rfl⟩ := List.mem_map.1 hs
      exact hws b (List.mem_of_mem_take hb)
    · have h0 : 0 < len := by rw [← hlen]; exact List.length_pos_iff.2 hne
      obtain ⟨b, off, spot⟩ := a
      have hspot : spot = none := by simpa [Addr.add] using World.cell?_spot (hcell 0 (by omega))
      subst hspot
      refine ⟨b, off, rfl, fun i hi => ?_⟩
      have hil : i < len := by omega
      have hib : i < bs.length := by omega
      have := hcell i hib
      rw [Addr.add_lit] at this
      rw [this]
      have e1 : bs.getD i ByteArray.empty = bs[i] := by simp [List.getD, hib]
      rw [e1]
      simp only [List.getElem_map, List.getElem_take]

theorem line_walk (a0 : Option Addr) (len0 cap0 : Nat) (ss : List Text) (w : World) (l0 : ss.length = len0) (h0 : Strs w (.slice a0 len0 cap0) ss) :
    Calls Try.prog 3 #[.slice a0 len0 cap0] w fun e w' => e = .returned (.bool true) ∧ Below w.heap.size w w' := by
  subst l0
  exact law ss a0 cap0 w h0

set_option maxRecDepth 100000 in
theorem line_lifted (os : Os) (started : os.Started) (H : Type) (enc : TypeId × Value → H) :
    ReturnsInHanded {} Try.checked os 3 .any (Rows.fnLineWritePiecewiseAgreesWithWholeSpec.pre6 enc Try.prog Try.f3 Rows.fnLineWritePiecewiseAgreesWithWholeRow.domain false) (Rows.fnLineWritePiecewiseAgreesWithWholeSpec.post enc Try.prog Try.f3 false true false false) := by
  refine returnsInHanded_of_change (C := Try.checked) own started (by kernel_rfl) Try.func3
    (ChangeSpec.witness6 (enc := enc) (C := Try.checked) false ⟨#[], #[.slice none 0 0], []⟩ 8 (by kernel_rfl) (by kernel_rfl) (by kernel_rfl) (by kernel_rfl)) ?_
  intro W base args ds gs before hval0 hW hcnd _
  have hval : ∀ (j : Nat) t v, Try.f3.params[j]? = some t → args[j]? = some v → Value.okWide Try.prog W .any base t v := hval0
  have hW' := hW
  obtain ⟨p, q, hA0, hV, rfl, hfz, hnd⟩ := hW
  have hA : DataW.TrodAll enc Try.prog W 0 (fun _ => true) true Try.f3.params.toList args.toList ds p := hA0
  rw [Try.params3] at hA hval
  obtain ⟨v0, vs0, d0, ds0, p0, q0, hargs, rfl, rfl, h0, r0⟩ := trodAll_cons hA
  obtain ⟨rfl, rfl, rfl⟩ := trodAll_nil r0
  obtain rfl : args = #[v0] := by cases args; simp_all
  obtain ⟨rfl, rfl⟩ := trodVars_none hV
  obtain ⟨a0, len0, cap0, rfl⟩ := okWide_slice Try.underlying22 (hval 0 22 v0 rfl rfl)
  have lt0 : ∀ x ∈ p0, x.block < W.heap.size := by obtain ⟨m, hm⟩ := h0; exact DataW.trod_lt m _ _ _ hm
  obtain ⟨ss, ls, bs⟩ := open_pieces h0
  clear hA0 hval0
  refine (line_walk a0 len0 cap0 ss W ls bs).mono fun e W' ⟨he, bel⟩ => ?_
  subst he
  exact ⟨_, rfl, _, _, _, [], _, [], hW', trodAll_mk1 (shut_bool Try.underlying4 _), (trodAll_cons_mk (Below.trod laidOut (by kernel_rfl) (of_decide_eq_true (by kernel_rfl)) h0 bel lt0) trodAll_mk0), rfl, bel.frame _, fun h => by cases h⟩

theorem line_over : Rows.fnLineWritePiecewiseAgreesWithWholeRow.holds Try.pinned (OpenSpec.ofChange Rows.fnLineWritePiecewiseAgreesWithWholeSpec) :=
  OpenClaim.holds_of_wide 3 Try.f3 rfl rfl rfl rfl rfl rfl rfl ⟨rfl, rfl, rfl, rfl, rfl⟩ rfl rfl rfl rfl rfl (by kernel_rfl) Try.func3 (by kernel_rfl)
    (of_decide_eq_true (by kernel_rfl)) (by unfold Func.isWrapper; first | (rw [if_pos (by decide +kernel)]; kernel_rfl) | (rw [if_neg (by decide +kernel)]; exact ⟨rfl, rfl⟩))
    (fun os started H enc _ => line_lifted os started H enc)

/-- THE STATEMENT -/
theorem line_proved : Rows.FnLineWritePiecewiseAgreesWithWholeSaid := line_over
end Go.Proofs.Qxb6628162a
