/-
  SEAT b6627850a: arguments of the types []byte and [][]byte, opened.
-/
import Derived.Test.Qxb6627850aRows
import Derived.Test.Qxb6627850aCmp
import Derived.ProofKit
import Derived.OpenShut
import Derived.ChangeOld
import Derived.Deep.Matrix
namespace Go.Proofs.Qxb6627850a
open Go.ChangeShapes Go.WideShapes Go.ChangeAt Go.RowKit
set_option linter.unusedVariables false

theorem own : ownKnob Try.prog.godebug = none := by kernel_rfl
theorem laidOut : laidOutB Try.prog = true := by kernel_rfl
theorem Try.cells5 : Try.prog.cellsOf 5 = 1 := by kernel_rfl
theorem Try.cells23 : Try.prog.cellsOf 23 = 1 := by kernel_rfl

/-- the numbers as bytes -/
def toKey (zs : List Int) : Key := zs.map fun z => UInt8.ofNat z.toNat

theorem byte_back {z : Int} (h : (Lit.int .u8 z).wf = true) : ((UInt8.ofNat z.toNat).toNat : Int) = z := by
  have h1 : IntKind.u8.min = 0 := rfl
  have h2 : IntKind.u8.max = 255 := rfl
  simp only [Lit.wf, Bool.and_eq_true, decide_eq_true_eq] at h
  have : z.toNat < 256 := by omega
  rw [UInt8.toNat_ofNat_of_lt' this]
  omega

theorem bys_of_ints {w : World} {a : Addr} {len cap : Nat} {zs : List Int} (hl : len ≤ cap) (hm : cap ≤ maxLen) (hz : zs.length = cap) (hcell : ∀ c, c < cap → w.cell? (a.add c) = some (.int .u8 (zs.getD c 0))) (hwf : ∀ n ∈ zs, (Lit.int .u8 n).wf = true) :
    ∃ l : Key, l.length = len ∧ Bys (fun _ => True) w (.slice (some a) len cap) l := by
  have hlen : (toKey (zs.take len)).length = len := by unfold toKey; simp; omega
  refine ⟨toKey (zs.take len), hlen, some a, cap, by rw [hlen], by omega, fun hne => ?_⟩
  have h0 : 0 < len := by rw [← hlen]; exact List.length_pos_iff.2 hne
  obtain ⟨b, off, spot⟩ := a
  have hspot : spot = none := by simpa [Addr.add] using World.cell?_spot (hcell 0 (by omega))
  subst hspot
  refine ⟨b, off, rfl, trivial, fun j hj => ?_⟩
  have hjl : j < len := by omega
  have := hcell j (by omega)
  rw [Addr.add_lit] at this
  rw [this]
  have hjz : j < zs.length := by omega
  have e1 : zs.getD j 0 = zs[j] := by simp [List.getD, hjz]
  have e2 : (toKey (zs.take len))[j] = UInt8.ofNat (zs[j]).toNat := by unfold toKey; simp
  rw [e1, e2, byte_back (hwf _ (List.getElem_mem hjz))]

theorem bys_nil {w : World} : Bys (fun _ => True) w (.slice none 0 0) [] := ⟨none, 0, rfl, by decide, fun h => absurd rfl h⟩

/-- an argument of type []byte -/
theorem open_key {H : Type} {enc : TypeId × Value → H} {W : World} {ao : Option Addr} {len cap : Nat} {d : DataW H} {p : List MemPlace} (h : DataW.Trod enc Try.prog W 0 (fun _ => true) true 23 (.slice ao len cap) d p) :
    ∃ l : Key, l.length = len ∧ Bys (fun _ => True) W (.slice ao len cap) l := by
  obtain ⟨fuel, hf⟩ := h
  rcases open_ints Try.underlying23 Try.underlying5 Try.cells5 hf with ⟨hcs, _⟩ | ⟨a, l, c, zs, hcs, _, hl, hm, hz, _, hcell, hwz⟩
  · simp [Value.cells] at hcs
    obtain ⟨rfl, rfl, rfl⟩ := hcs
    exact ⟨[], rfl, bys_nil⟩
  · simp [Value.cells] at hcs
    obtain ⟨rfl, rfl, rfl⟩ := hcs
    simp only [if_true] at hz
    exact bys_of_ints hl hm hz (fun i hi => hcell i (by omega)) hwz

/-- an argument of type [][]byte -/
theorem open_keys {H : Type} {enc : TypeId × Value → H} {W : World} {ao : Option Addr} {len cap : Nat} {d : DataW H} {p : List MemPlace} (h : DataW.Trod enc Try.prog W 0 (fun _ => true) true 22 (.slice ao len cap) d p) :
    ∃ ll : List Key, ll.length = len ∧ Bss (fun _ => True) W (.slice ao len cap) ll := by
  obtain ⟨fuel, hf⟩ := h
  rcases Deep.open_int_rows Try.underlying22 Try.underlying23 Try.underlying5 Try.cells23 Try.cells5 hf with ⟨hcs, _⟩ | ⟨a, l, c, A, L, C, Z, hcs, _, hl, hm, _, hr⟩
  · simp [Value.cells] at hcs
    obtain ⟨rfl, rfl, rfl⟩ := hcs
    exact ⟨[], rfl, none, 0, rfl, Nat.le_refl _, by decide, fun h => absurd rfl h⟩
  · simp [Value.cells] at hcs
    obtain ⟨rfl, rfl, rfl⟩ := hcs
    have each : ∀ i, ∃ l : Key, i < len → Bys (fun _ => True) W (.slice (A i) (L i) (C i)) l := fun i => by
      by_cases hi : i < len
      · obtain ⟨_, h1, h2, h3, h4, h5, h6⟩ := hr i (by omega)
        cases hA : A i with
        | none =>
          have hC := h5 hA
          have hL : L i = 0 := by omega
          exact ⟨[], fun _ => by rw [hC, hL]; exact bys_nil⟩
        | some a' =>
          obtain ⟨l, _, hb⟩ := bys_of_ints h1 h2 h3 (h6 a' hA).2 h4
          exact ⟨l, fun _ => hb⟩
      · exact ⟨[], fun k => absurd k hi⟩
    obtain ⟨f, hff⟩ : ∃ f : Nat → Key, ∀ i, i < len → Bys (fun _ => True) W (.slice (A i) (L i) (C i)) (f i) := ⟨fun i => Classical.choose (each i), fun i => Classical.choose_spec (each i)⟩
    have hlen : ((List.range len).map f).length = len := by simp
    refine ⟨(List.range len).map f, hlen, some a, cap, by rw [hlen], by omega, hm, fun hne => ?_⟩
    have h0 : 0 < len := by rw [← hlen]; exact List.length_pos_iff.2 hne
    obtain ⟨b, off, spot⟩ := a
    have hspot : spot = none := by simpa [Addr.add] using World.cell?_spot (hr 0 (by omega)).1
    subst hspot
    refine ⟨b, off, rfl, trivial, fun i hi => ?_⟩
    have hil : i < len := by omega
    have := (hr i (by omega)).1
    rw [Addr.add_lit] at this
    refine ⟨_, this, ?_⟩
    simp only [List.getElem_map, List.getElem_range]
    exact hff i hil
end Go.Proofs.Qxb6627850a
