/-
  SEAT b6628162a: a strings.Builder in the first field of a Line: copyCheck, Len, WriteString, String. After the kit's Derived/Shelf/Strings/Builder1.lean (a builder in a block of its own), turned to a builder in a Line's block.
-/
import Derived.Test.Qxb6628162aCut
import Derived.Lib.Builder
import Derived.Lib.AppendStr
import Derived.RegionTactic
import Derived.Deep.RegionLaw
namespace Go.Proofs.Qxb6628162a
open Go.RowKit
set_option linter.unusedVariables false

theorem Try.info5 : (Try.prog.info? 5).map (fun i => (i.zero, i.size, i.bytes)) = some (some (.int .u8 0), 1, 1) := by kernel_rfl
theorem Try.cells5 : Try.prog.cellsOf 5 = 1 := by kernel_rfl
theorem Try.size35 : (Try.prog.info? 35).map (fun i => i.size) = some 2 := by kernel_rfl
theorem Try.lies35 : liesAt Try.prog Try.prog.depth 37 (3 / Try.prog.cellsOf 37) 0 35 1 = true := by kernel_rfl

/-- block b is a Line: its builder's 'addr' holds p, the text written so far is l, 'cut' is c; the block and the buffer are the call's own (from B on) -/
def LineAt (B b : Nat) (p : Value) (l : Text) (c : Bool) (w : World) : Prop :=
  B ≤ b ∧ ∃ v, w.heap[b]? = some (.cells #[p, v, .bool c] 37 (0, 0)) ∧ w.ownsRow B 5 1 v l.length (Lib.byteCells l) ∧ v.ownBlock ≠ some b ∧ (l = [] → v = .slice none 0 0)
def IsLine (B b : Nat) (l : Text) (c : Bool) (w : World) : Prop := LineAt B b (.pointer none) l c w ∨ LineAt B b (.pointer (some ⟨b, 0, none⟩)) l c w

set_option maxHeartbeats 1000000 in
set_option maxRecDepth 100000 in
theorem copyCheck_used (b : Nat) (w : World) (h0 : w.cell? ⟨b, 0, none⟩ = some (.pointer (some ⟨b, 0, none⟩))) :
    Calls Try.prog 16 #[.pointer (some ⟨b, 0, none⟩)] w fun e w' => e = .returned (.tuple #[]) ∧ w' = w := by
  obtain ⟨j, hj, _⟩ := Option.map_eq_some_iff.1 Try.size35
  go_enter Try.func16, Try.ntmps16
  go_wp2
  rw [Lib.run_neq_ptr_same w _ Try.underlying33 hj]
  go_wp2
  go_end0
  exact ⟨rfl, rfl⟩

/-- *Builder to a bare pointer and back, at the head of a Line: the address as it is -/
theorem conv_to (b : Nat) (w : World) (hsh : w.shape? b = some (37, 3)) : (convert 33 46 (.pointer (some ⟨b, 0, none⟩))).run Try.prog w = .ok (.pointer (some ⟨b, 0, none⟩)) w := by
  obtain ⟨j, hj, hjs⟩ := Option.map_eq_some_iff.1 Try.size35
  have h33 := run_underlying (P := Try.prog) Try.underlying33
  have h46 := run_underlying (P := Try.prog) Try.underlying46
  simp only [convert, h33, h46, Sem.run_bind, Result.andThen]
  show Sem.run Try.prog (underlying 33 >>= fun d1 => underlying 46 >>= fun d2 => _) w = _
  simp [h33, h46, Conv.seenAt, viewAt, cellsIn, hsh, sizeOf, typeInfo, hj, hjs]
theorem conv_from (b : Nat) (w : World) (hsh : w.shape? b = some (37, 3)) : (convert 46 33 (.pointer (some ⟨b, 0, none⟩))).run Try.prog w = .ok (.pointer (some ⟨b, 0, none⟩)) w := by
  obtain ⟨j, hj, hjs⟩ := Option.map_eq_some_iff.1 Try.size35
  have h33 := run_underlying (P := Try.prog) Try.underlying33
  have h46 := run_underlying (P := Try.prog) Try.underlying46
  simp only [convert, h33, h46, Sem.run_bind, Result.andThen]
  show Sem.run Try.prog (underlying 46 >>= fun d1 => underlying 33 >>= fun d2 => _) w = _
  simp [h33, h46, Conv.seenAt, viewAt, hsh, variablesAt, Try.lies35, sizeOf, typeInfo, hj]

set_option maxHeartbeats 1000000 in
set_option maxRecDepth 100000 in
theorem copyCheck_fresh (b : Nat) (w : World) (h0 : w.cell? ⟨b, 0, none⟩ = some (.pointer none)) (hsh : w.shape? b = some (37, 3)) (hfz : w.frozen? ⟨b, 0, none⟩ = false) :
    Calls Try.prog 16 #[.pointer (some ⟨b, 0, none⟩)] w fun e w' => e = .returned (.tuple #[]) ∧ w' = w.setCell ⟨b, 0, none⟩ (.pointer (some ⟨b, 0, none⟩)) := by
  go_enter Try.func16, Try.ntmps16
  go_wp2
  rw [conv_to b w hsh]
  simp only [Result.andThen]
  rw [Oper.upon_value]
  go_wp2
  rw [run_callFunc_extern Try.func17 (by kernel_rfl) (by kernel_rfl) (by kernel_rfl) (e := Extern.AbiNoEscape.same) (by kernel_rfl)]
  rw [Lib.run_noEscape]
  simp only [Result.andThen]
  rw [Oper.upon_value]
  go_wp2
  rw [conv_from b w hsh]
  simp only [Result.andThen]
  rw [Oper.upon_value]
  go_wp2
  go_end0
  exact ⟨rfl, rfl⟩

theorem LineAt.cells {B b : Nat} {p : Value} {l : Text} {c : Bool} {w : World} (h : LineAt B b p l c w) :
    ∃ ao cap, w.heap[b]? = some (.cells #[p, .slice ao l.length cap, .bool c] 37 (0, 0)) ∧ w.ownsRow B 5 1 (.slice ao l.length cap) l.length (Lib.byteCells l) ∧ (Value.slice ao l.length cap).ownBlock ≠ some b ∧ (l = [] → Value.slice ao l.length cap = .slice none 0 0) := by
  obtain ⟨_, v, hb, hown, hne, hnil⟩ := h
  rcases id hown.2 with ⟨hv, h0⟩ | ⟨g, cap, cur, hv, _⟩
  · rw [hv] at hb hown hne
    rw [h0] at hown ⊢
    exact ⟨none, 0, hb, hown, hne, fun _ => rfl⟩
  · rw [hv] at hb hown hne hnil
    exact ⟨_, cap, hb, hown, hne, hnil⟩
theorem LineAt.used {B b : Nat} {p : Value} {l : Text} {c : Bool} {w : World} (h : LineAt B b p l c w) (q : Value) : LineAt B b q l c (w.setCell ⟨b, 0, none⟩ q) := by
  obtain ⟨hB, v, hb, hown, hne, hnil⟩ := h
  refine ⟨hB, v, ?_, ?_, hne, hnil⟩
  · simp [World.setCell, Array.getElem?_modify, hb]
  · refine hown.kept (row := some b) ⟨rfl, rfl, rfl, by simp [World.setCell], fun k _ hk => Below.heap_setCell _ _ _ _ (fun e => hk (by rw [e]))⟩ (Or.inr hne)
theorem LineAt.setCut {B b : Nat} {p : Value} {l : Text} {c : Bool} {w : World} (h : LineAt B b p l c w) (d : Bool) : LineAt B b p l d (w.setCell ⟨b, 2, none⟩ (.bool d)) := by
  obtain ⟨hB, v, hb, hown, hne, hnil⟩ := h
  refine ⟨hB, v, ?_, ?_, hne, hnil⟩
  · simp [World.setCell, Array.getElem?_modify, hb]
  · refine hown.kept (row := some b) ⟨rfl, rfl, rfl, by simp [World.setCell], fun k _ hk => Below.heap_setCell _ _ _ _ (fun e => hk (by rw [e]))⟩ (Or.inr hne)
theorem LineAt.put {B b : Nat} {p v v' : Value} {l : Text} {c : Bool} {w : World} (hB : B ≤ b) (hb : w.heap[b]? = some (.cells #[p, v, .bool c] 37 (0, 0))) (hown : w.ownsRow B 5 1 v' l.length (Lib.byteCells l)) (hnil : l = [] → v' = .slice none 0 0) : LineAt B b p l c (w.setCell ⟨b, 1, none⟩ v') := by
  have hne : v'.ownBlock ≠ some b := fun e => by
    rcases hown.2 with ⟨hv, _⟩ | ⟨g, cap, cur, hv, _, hg, _⟩
    · rw [hv] at e; cases e
    · rw [hv] at e
      cases e
      rw [hb] at hg
      simp at hg
  refine ⟨hB, v', ?_, ?_, hne, hnil⟩
  · simp [World.setCell, Array.getElem?_modify, hb]
  · refine hown.kept (row := some b) ⟨rfl, rfl, rfl, by simp [World.setCell], fun k _ hk => Below.heap_setCell _ _ _ _ (fun e => hk (by rw [e]))⟩ (Or.inr hne)

/-- (*strings.Builder).copyCheck -/
theorem copyCheck_any {B b : Nat} {l : Text} {c : Bool} {w : World} (h : IsLine B b l c w) :
    Calls Try.prog 16 #[.pointer (some ⟨b, 0, none⟩)] w fun e w' => e = .returned (.tuple #[]) ∧ LineAt B b (.pointer (some ⟨b, 0, none⟩)) l c w' ∧ Below B w w' := by
  rcases h with h | h
  · obtain ⟨ao, cap, hb, _⟩ := h.cells
    refine (copyCheck_fresh b w (by rw [Lib.cell_of_heap hb]; rfl) (by simp [World.shape?, hb]) (Lib.frozen_of_heap hb 0)).mono ?_
    rintro e w' ⟨rfl, rfl⟩
    exact ⟨rfl, h.used _, (Below.refl B w).setCell (p := ⟨b, 0, none⟩) h.1 _⟩
  · obtain ⟨ao, cap, hb, _⟩ := h.cells
    refine (copyCheck_used b w (by rw [Lib.cell_of_heap hb]; rfl)).mono ?_
    rintro e w' ⟨rfl, rfl⟩
    exact ⟨rfl, h, Below.refl B _⟩

theorem IsLine.at {B b : Nat} {l : Text} {c : Bool} {w : World} (h : IsLine B b l c w) : ∃ p, LineAt B b p l c w := by
  rcases h with h | h
  · exact ⟨_, h⟩
  · exact ⟨_, h⟩

set_option maxHeartbeats 1000000 in
/-- (*strings.Builder).Len -/
theorem len_any {B b : Nat} {l : Text} {c : Bool} {w : World} (h : IsLine B b l c w) :
    Calls Try.prog 12 #[.pointer (some ⟨b, 0, none⟩)] w fun e w' => e = .returned (.int .i64 l.length) ∧ w' = w := by
  obtain ⟨p, h⟩ := h.at
  obtain ⟨ao, cap, hb, _⟩ := h.cells
  have c1 : w.cell? ⟨b, 1, none⟩ = some (.slice ao l.length cap) := by rw [Lib.cell_of_heap hb]; rfl
  go_enter Try.func12, Try.ntmps12
  go_wp2
  go_ret
  exact ⟨rfl, rfl⟩

set_option maxHeartbeats 2000000 in
set_option maxRecDepth 100000 in
/-- (*strings.Builder).WriteString -/
theorem writeString_any {B b : Nat} {l : Text} {c : Bool} {w : World} (s : Text) (h : IsLine B b l c w) (hlen : l.length + s.length ≤ 140737488355328) (hBw : B ≤ w.heap.size) :
    Calls Try.prog 13 #[.pointer (some ⟨b, 0, none⟩), .string (str s)] w fun e w' => ∃ v, e = .returned v ∧ LineAt B b (.pointer (some ⟨b, 0, none⟩)) (l ++ s) c w' ∧ Below B w w' := by
  obtain ⟨i0, hi, hz0, hz1, hz2⟩ := info_parts Try.info5
  have hss : (str s).size = s.length := rfl
  go_enter Try.func13, Try.ntmps13
  go_wp2_with (go_at_call 16; refine (copyCheck_any h).mono ?_)
  rintro e w1 ⟨rfl, h1, hb1⟩
  obtain ⟨ao, cap, hbk, hown, hne, hnl⟩ := h1.cells
  have hB := h1.1
  have c0 : w1.cell? ⟨b, 0, none⟩ = some (.pointer (some ⟨b, 0, none⟩)) := by rw [Lib.cell_of_heap hbk]; rfl
  have c1 : w1.cell? ⟨b, 1, none⟩ = some (.slice ao l.length cap) := by rw [Lib.cell_of_heap hbk]; rfl
  go_wp2_with (at_builtin; refine Lib.wpList_append_own_string _ rfl _ _ 32 9 rfl B 5 i0 Try.underlying32 Try.underlying9 hi hz0 hz1 hz2 _ _ _ rfl hown (str s) rfl ?c3 ?c4 ?c5 ?_)
  case c3 => unfold maxLen; omega
  case c4 => omega
  case c5 => have := hb1.size; omega
  intro v' w2 hown' hgrow hiff
  have hlt : b < w1.heap.size := by
    rcases Nat.lt_or_ge b w1.heap.size with h' | h'
    · exact h'
    · simp [Array.getElem?_eq_none h'] at hbk
  have hb2 : w2.heap[b]? = some (.cells #[.pointer (some ⟨b, 0, none⟩), .slice ao l.length cap, .bool c] 37 (0, 0)) := by
    rw [hgrow.block b hlt (fun e => hne e.symm)]
    exact hbk
  have d0 : w2.cell? ⟨b, 0, none⟩ = some (.pointer (some ⟨b, 0, none⟩)) := by rw [Lib.cell_of_heap hb2]; rfl
  have d1 : w2.cell? ⟨b, 1, none⟩ = some (.slice ao l.length cap) := by rw [Lib.cell_of_heap hb2]; rfl
  have f1 : w2.frozen? ⟨b, 1, none⟩ = false := Lib.frozen_of_heap hb2 1
  have hnil' : l ++ s = [] → v' = .slice none 0 0 := fun e => by
    have e1 := List.append_eq_nil_iff.1 e
    have e2 := hnl e1.1
    simp only [Value.slice.injEq] at e2
    refine hiff.2 ?_
    simp [e2.1, e2.2.2, e1.1, e1.2]
  have HNIL : Hid (l ++ s = [] → v' = .slice none 0 0) := hnil'
  clear hnil' hiff hnl
  obtain ⟨ao', n', cap', rfl⟩ : ∃ ao n' cap, v' = .slice ao n' cap := by
    rcases hown'.2 with ⟨hv, _⟩ | ⟨g, cap, cur, hv, _⟩
    · exact ⟨_, _, _, hv⟩
    · exact ⟨_, _, _, hv⟩
  go_wp2
  go_ret2
  refine ⟨_, rfl, ?_, ?_⟩
  · refine LineAt.put hB hb2 ?_ HNIL.out
    rw [List.length_append, Lib.byteCells_append]
    exact hown'
  · exact (hb1.grown hgrow (by have := hb1.size; omega) (fun k hk => (hown.lt k hk).1)).setCell (p := ⟨b, 1, none⟩) hB _

/-- a Line that is only read any more: all of it lies in blocks from B on and below N -/
def LineIn (N B b : Nat) (l : Text) (c : Bool) (w : World) : Prop :=
  ∃ p v, b < N ∧ B ≤ b ∧ w.heap[b]? = some (.cells #[p, v, .bool c] 37 (0, 0)) ∧ w.ownsRow B 5 1 v l.length (Lib.byteCells l) ∧ v.ownBlock ≠ some b ∧ (l = [] → v = .slice none 0 0) ∧ ∀ g, v.ownBlock = some g → g < N
theorem lt_of_heap {w : World} {b : Nat} {o : Obj} (h : w.heap[b]? = some o) : b < w.heap.size := by
  rcases Nat.lt_or_ge b w.heap.size with h' | h'
  · exact h'
  · simp [Array.getElem?_eq_none h'] at h
theorem IsLine.in {B b : Nat} {l : Text} {c : Bool} {w : World} (h : IsLine B b l c w) : LineIn w.heap.size B b l c w := by
  obtain ⟨p, hB, v, hb, hown, hne, hnil⟩ := h.at
  exact ⟨p, v, lt_of_heap hb, hB, hb, hown, hne, hnil, fun g hg => (hown.lt g hg).2⟩
theorem LineIn.kept {N B b : Nat} {l : Text} {c : Bool} {w w' : World} {row : Option Nat} (h : LineIn N B b l c w) (hg : w.grownBy w' row) (hr : ∀ g, row = some g → g < B ∨ N ≤ g) : LineIn N B b l c w' := by
  obtain ⟨p, v, h1, h2, h3, h4, h5, h7, h6⟩ := h
  refine ⟨p, v, h1, h2, ?_, h4.kept hg ?_, h5, h7, h6⟩
  · rw [hg.block b (lt_of_heap h3) (fun e => by have := hr b e.symm; omega)]
    exact h3
  · cases hv : v.ownBlock with
    | none => exact Or.inl rfl
    | some g =>
      refine Or.inr (fun e => ?_)
      have a1 := (h4.lt g hv).1
      have a2 := h6 g hv
      have := hr g e.symm
      omega
theorem LineIn.below {N B b : Nat} {l : Text} {c : Bool} {w w' : World} (h : LineIn N B b l c w) (hb : Below N w w') : LineIn N B b l c w' := by
  obtain ⟨p, v, h1, h2, h3, h4, h5, h7, h6⟩ := h
  refine ⟨p, v, h1, h2, (hb.block b h1).trans h3, ⟨h4.1, ?_⟩, h5, h7, h6⟩
  rcases h4.2 with a | ⟨g, cap, cur, hv, hbg, hg, r⟩
  · exact Or.inl a
  · exact Or.inr ⟨g, cap, cur, hv, hbg, (hb.block g (h6 g (by rw [hv]; rfl))).trans hg, r⟩

/-- what String leaves: one row's marks may have turned; a block may have been laid -/
def Marked (B N b : Nat) (w w' : World) : Prop := ∃ row, w.grownBy w' row ∧ ∀ g, row = some g → B ≤ g ∧ g < N ∧ g ≠ b
theorem grown_drew (a : World) (r : Option Nat) : a.grownBy a.drew r := ⟨rfl, rfl, rfl, Nat.le_refl _, fun _ _ _ => rfl⟩
theorem grown_freeze (a : World) (g n : Nat) : a.grownBy (a.drew.freeze ⟨g, 0, none⟩ n) (some g) := by
  unfold World.freeze
  split
  · exact grown_drew _ _
  · exact ⟨rfl, rfl, rfl, by simp, fun k _ hk => by
      show (Array.modify a.heap g _)[k]? = _
      rw [Array.getElem?_modify, if_neg (fun e => hk (by rw [e]))]⟩
theorem grown_alloc_drew (a : World) (o : Obj) (r : Option Nat) : a.grownBy (a.alloc o).drew r := by
  have h := World.grownBy_alloc a o r
  exact ⟨h.os, h.tape, h.output, h.size, h.block⟩

/-- one call of a builtin, as a step of a region that draws, its run known -/
theorem step_run {P : Program} {ops : Array Oper} {o : Oper} {a : Act} {w : World} {K : Act → World → Prop} {Q : Exit → Act → World → Prop} {E : Prop}
    (hg : o.guard = none) (v : Value) (w' : World) (hr : (execOp a.eval o).run P w = .ok (.value v) w') (hK : K (a.put o.dst v) w') :
    if Region.wanted o (yielded ops a.tmps) = true then Oper.wp P o a w K Q else E := by
  have hw : Region.wanted o (yielded ops a.tmps) = true := by simp [Region.wanted, hg]
  rw [if_pos hw]
  unfold Oper.wp
  rw [hr]
  exact hK

/-- the bytes at a row's head, taken as a string: the bytes, copied; in the row they are marked. X: the builtin's text -/
theorem bytes_taken {w : World} {g cells : Nat} {l : Text} {X : Sem Value} {r1 r2 : Sem PUnit} {r3 : Sem Value}
    (hX : X = (do
      let n ← asInt (.int .i64 (l.length : Int))
      if n < 0 then r1
      if n > IntKind.i64.max then r2
      if n = 0 then pure (.string .empty)
      else if ← variablesAt ⟨g, 0, none⟩ (← elemOf 45) n.toNat then do
        let s ← loadBytes ⟨g, 0, none⟩ .empty n.toNat
        freeze ⟨g, 0, none⟩ n.toNat
        pure (.string s)
      else r3))
    (hsh : w.shape? g = some (5, cells)) (h0 : l ≠ []) (hn : l.length ≤ cells) (h63 : l.length ≤ 9223372036854775807) (hcell : ∀ j x, l[j]? = some x → w.cell? ((⟨g, 0, none⟩ : Addr).add j) = some (.int .u8 x.toNat)) :
    ((X.run Try.prog w).andThen fun a w' => Result.ok (Next.value a) w') = .ok (.value (.string (str l))) (w.freeze ⟨g, 0, none⟩ l.length) := by
  have hl : l.length ≠ 0 := by simpa using h0
  have hlb := Lib.run_loadBytes (P := Try.prog) w l ⟨g, 0, none⟩ .empty hcell
  have hlies := Lib.liesAt_bytes (P := Try.prog) Try.cells5 (cells / Try.prog.cellsOf 5) l.length (by rw [Try.cells5]; simpa using hn)
  have h63' : ¬ (9223372036854775807 : Int) < (l.length : Int) := by omega
  have hmax : IntKind.i64.max = 9223372036854775807 := rfl
  have hneg : ¬ (l.length : Int) < 0 := by omega
  rw [hX]
  simp [asInt, asIntOf, hmax, h63', hneg, hl, variablesAt, hsh, elemOf, run_underlying Try.underlying45, hlies, hlb]
theorem none_taken {w : World} {X : Sem Value} {r1 r2 : Sem PUnit} {r3 : Sem Value}
    (hX : X = (do
      let n ← asInt (.int .i64 0)
      if n < 0 then r1
      if n > IntKind.i64.max then r2
      if n = 0 then pure (.string .empty)
      else r3)) :
    ((X.run Try.prog w).andThen fun a w' => Result.ok (Next.value a) w') = .ok (.value (.string ⟨#[]⟩)) w := by
  have hmax : IntKind.i64.max = 9223372036854775807 := rfl
  rw [hX]
  simp [asInt, asIntOf, hmax]
  rfl
theorem head_taken {w : World} {g cap : Nat} {X : Sem Value} {r : Sem Value} (hX : X = (if cap ≠ 0 then pure (.pointer (some ⟨g, 0, none⟩)) else r)) (hc : cap ≠ 0) :
    ((X.run Try.prog w).andThen fun a w' => Result.ok (Next.value a) w') = .ok (.value (.pointer (some ⟨g, 0, none⟩))) w := by
  rw [hX, if_pos hc]
  rfl

set_option maxHeartbeats 1000000 in
set_option maxRecDepth 100000 in
/-- (*strings.Builder).String, at least one byte -/
theorem string_some {N B b : Nat} {l : Text} {c : Bool} {w : World} (h : LineIn N B b l c w) (h0 : l ≠ []) :
    Calls Try.prog 14 #[.pointer (some ⟨b, 0, none⟩)] w fun e w' => e = .returned (.string (str l)) ∧ Marked B N b w w' := by
  obtain ⟨p, v, hbN, hB, hbk, hown, hne, _, hlt⟩ := h
  have hl0 : l.length ≠ 0 := by simpa using h0
  obtain ⟨g, cap, cur, rfl, hbg, hg, hnc, hcm, hcs, htake⟩ : ∃ g cap cur, v = .slice (some ⟨g, 0, none⟩) l.length cap ∧ B ≤ g ∧ w.heap[g]? = some (.cells cur 5 (0, 0)) ∧ l.length ≤ cap ∧ cap ≤ maxLen ∧ cur.size = cap * 1 ∧ cur.toList.take (l.length * 1) = Lib.byteCells l := by
    rcases hown.2 with ⟨_, hz⟩ | ⟨g, cap, cur, hv, r⟩
    · exact absurd hz hl0
    · exact ⟨g, cap, cur, hv, r⟩
  have hgb : g ≠ b := fun e => hne (by rw [e]; rfl)
  have hgN := hlt g rfl
  have c1 : w.drew.cell? ⟨b, 1, none⟩ = some (.slice (some ⟨g, 0, none⟩) l.length cap) := by
    have : w.drew.heap[b]? = some (.cells #[p, .slice (some ⟨g, 0, none⟩) l.length cap, .bool c] 37 (0, 0)) := hbk
    rw [Lib.cell_of_heap this]; rfl
  have hcp : cap ≠ 0 := by omega
  have hshp : w.drew.shape? g = some (5, cur.size) := by have hg' : w.drew.heap[g]? = some (.cells cur 5 (0, 0)) := hg; simp [World.shape?, hg']
  have hlc : l.length ≤ cur.size := by omega
  have h63 : l.length ≤ 9223372036854775807 := by unfold maxLen at hcm; omega
  have hcl : ∀ j x, l[j]? = some x → w.drew.cell? ((⟨g, 0, none⟩ : Addr).add j) = some (.int .u8 x.toNat) := fun j x hx => hown.cells (g := g) rfl j (.int .u8 x.toNat) (by simp [Lib.byteCells, hx])
  go_enter Try.func14, Try.ntmps14
  go_wp2
  go_region_law (first | (refine step_run rfl (.pointer (some ⟨g, 0, none⟩)) w.drew ?_ ?_; focus (simp [go_sem]; exact head_taken rfl hcp)) | (refine step_run rfl (.string (str l)) (w.drew.freeze ⟨g, 0, none⟩ l.length) ?_ ?_; focus (simp [go_sem]; exact bytes_taken rfl hshp h0 hlc h63 hcl)))
  all_goals (go_wp2; go_ret; exact ⟨rfl, some g, grown_freeze _ _ _, fun g' e => by cases e; exact ⟨hbg, hgN, hgb⟩⟩)

set_option maxHeartbeats 2000000 in
set_option maxRecDepth 100000 in
theorem string_nil (b : Nat) (p : Value) (c : Bool) (w : World) (hbk : w.heap[b]? = some (.cells #[p, .slice none 0 0, .bool c] 37 (0, 0))) :
    Calls Try.prog 14 #[.pointer (some ⟨b, 0, none⟩)] w fun e w' => e = .returned (.string ⟨#[]⟩) ∧ w.grownBy w' none := by
  have c1 : w.drew.cell? ⟨b, 1, none⟩ = some (.slice none 0 0) := by
    have : w.drew.heap[b]? = some (.cells #[p, .slice none 0 0, .bool c] 37 (0, 0)) := hbk
    rw [Lib.cell_of_heap this]; rfl
  go_enter Try.func14, Try.ntmps14
  go_wp2
  go_region_law (first | (refine step_run rfl (.pointer none) w.drew ?_ ?_; focus (simp [go_sem]; rfl)) | (refine step_run rfl (.string ⟨#[]⟩) w.drew ?_ ?_; focus (simp [go_sem]; exact none_taken rfl)))
  all_goals (go_wp2; go_ret; exact ⟨rfl, grown_drew _ _⟩)

/-- (*strings.Builder).String -/
theorem string_any {N B b : Nat} {l : Text} {c : Bool} {w : World} (h : LineIn N B b l c w) :
    Calls Try.prog 14 #[.pointer (some ⟨b, 0, none⟩)] w fun e w' => e = .returned (.string (str l)) ∧ Marked B N b w w' := by
  by_cases h0 : l = []
  · subst h0
    obtain ⟨p, v, hbN, hB, hbk, hown, hne, hnil, hlt⟩ := h
    rw [hnil rfl] at hbk
    exact (string_nil b p c w hbk).mono fun e w' ⟨he, hg⟩ => ⟨he, none, hg, fun g e => by cases e⟩
  · exact string_some h h0

set_option maxHeartbeats 1000000 in
/-- ZZLineText -/
theorem text_any {N B b : Nat} {l : Text} {c : Bool} {w : World} (h : LineIn N B b l c w) :
    Calls Try.prog 8 #[.pointer (some ⟨b, 0, none⟩)] w fun e w' => e = .returned (.string (str l)) ∧ Marked B N b w w' := by
  go_enter Try.func8, Try.ntmps8
  go_wp2_with (go_at_call 14; refine (string_any h).mono ?_; rintro e w' ⟨rfl, hm⟩)
  go_ret
  exact ⟨rfl, hm⟩

set_option maxHeartbeats 1000000 in
/-- ZZLineCut -/
theorem cutFlag_any {N B b : Nat} {l : Text} {c : Bool} {w : World} (h : LineIn N B b l c w) :
    Calls Try.prog 9 #[.pointer (some ⟨b, 0, none⟩)] w fun e w' => e = .returned (.bool c) ∧ w' = w := by
  obtain ⟨p, v, hbN, hB, hbk, hown, hne, hlt⟩ := h
  have c2 : w.cell? ⟨b, 2, none⟩ = some (.bool c) := by rw [Lib.cell_of_heap hbk]; rfl
  go_enter Try.func9, Try.ntmps9
  go_wp2
  go_ret
  exact ⟨rfl, rfl⟩

set_option maxHeartbeats 1000000 in
/-- ZZNewLine -/
theorem newLine_any (w : World) : Calls Try.prog 6 #[] w fun e w' => e = .returned (.pointer (some ⟨w.heap.size, 0, none⟩)) ∧ IsLine w.heap.size w.heap.size [] false w' ∧ Below w.heap.size w w' := by
  go_enter Try.func6, Try.ntmps6
  go_wp2
  go_ret
  refine ⟨rfl, Or.inl ⟨Nat.le_refl _, .slice none 0 0, ?_, World.ownsRow_nil _ _ _ _, (fun h => by cases h), fun _ => rfl⟩, (Below.refl _ _).alloc (Nat.le_refl _) _⟩
  exact heap_alloc_new w _
end Go.Proofs.Qxb6628162a
