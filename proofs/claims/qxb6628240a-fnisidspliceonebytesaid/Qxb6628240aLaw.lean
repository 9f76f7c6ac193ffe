/-
  SEAT b6628240a: the law FnIsIDSpliceOneByte, walked.
-/
import Derived.Test.Qxb6628240aSix
namespace Go.Proofs.Qxb6628240a
open Go.RowKit
set_option linter.unusedVariables false

/-- s with byte k replaced by u -/
def splice (s : ByteArray) (k : Nat) (u : UInt8) : ByteArray := s.extract 0 k ++ (⟨#[u]⟩ : ByteArray) ++ s.extract (k + 1) s.size

theorem split_at {α : Type} (l : List α) (k : Nat) (h : k < l.length) : l = l.take k ++ l[k] :: l.drop (k + 1) := by
  rw [← List.drop_eq_getElem_cons h, List.take_append_drop]

theorem splice_list (s : ByteArray) (k : Nat) (u : UInt8) : (splice s k u).data.toList = s.data.toList.take k ++ u :: s.data.toList.drop (k + 1) := by
  unfold splice
  rw [ByteArray.data_append, ByteArray.data_append, Array.toList_append, Array.toList_append, ByteArray.data_extract, ByteArray.data_extract, Array.toList_extract, Array.toList_extract]
  simp [List.extract]
  rw [List.take_of_length_le]
  simp

theorem splice_size (s : ByteArray) (k : Nat) (u : UInt8) (h : k < s.size) : (splice s k u).size = s.size := by
  have := congrArg List.length (splice_list s k u)
  have h2 : s.data.toList.length = s.size := by simp
  have h3 : (splice s k u).data.toList.length = (splice s k u).size := by simp
  rw [h3, List.length_append, List.length_cons, List.length_take, List.length_drop, h2] at this
  omega

theorem isId_list (s : ByteArray) : isId s = (s.data.toList.length == 6 && s.data.toList.all fun u => alI (u.toNat : Int)) := rfl

theorem splice_fwd (s : ByteArray) (k : Nat) (u : UInt8) (h : k < s.size) (hs : isId s = true) : isId (splice s k u) = alI (u.toNat : Int) := by
  have hk : k < s.data.toList.length := by simpa using h
  have e := split_at s.data.toList k hk
  rw [isId_list, Bool.and_eq_true] at hs
  have h6 : (splice s k u).data.toList.length = s.data.toList.length := splice_size s k u h
  rw [isId_list, h6, hs.1, Bool.true_and, splice_list]
  have h2 := hs.2
  rw [e, List.all_append, List.all_cons, Bool.and_eq_true, Bool.and_eq_true] at h2
  rw [List.all_append, List.all_cons, h2.1, h2.2.2]
  simp

theorem splice_back (s : ByteArray) (k : Nat) (u : UInt8) (h : k < s.size) (ht : isId (splice s k u) = true) : isId s = alI (s[k].toNat : Int) := by
  have hk : k < s.data.toList.length := by simpa using h
  have e := split_at s.data.toList k hk
  have h6 : (splice s k u).data.toList.length = s.data.toList.length := splice_size s k u h
  rw [isId_list, h6, Bool.and_eq_true, splice_list] at ht
  have h2 := ht.2
  rw [List.all_append, List.all_cons, Bool.and_eq_true, Bool.and_eq_true] at h2
  rw [isId_list, ht.1, Bool.true_and, e, List.all_append, List.all_cons, h2.1, h2.2.2]
  simp
  rfl

theorem build_one (u : UInt8) (w : World) : (Instr.buildSlice 26 1 #[(0, .int .u8 (u.toNat : Int))]).run Try.prog w = .ok (.slice (some ⟨w.heap.size, 0, none⟩) 1 1) (w.alloc (.cells #[.int .u8 (u.toNat : Int)] 5)) := by kernel_rfl

theorem conv_one (u : UInt8) (w : World) (b : Nat) (h : w.heap[b]? = some (.cells #[.int .u8 (u.toNat : Int)] 5)) : (convert 26 9 (.slice (some ⟨b, 0, none⟩) 1 1)).run Try.prog w = .ok (.string ⟨#[u]⟩) w := by
  refine run_convert_bytes_back (P := Try.prog) w 26 9 5 ⟨b, 0, none⟩ 1 [u] Try.underlying26 Try.underlying5 Try.underlying9 (fun j hj => ?_)
  have hj0 : j = 0 := by simpa using hj
  subst hj0
  rw [Addr.add_lit]
  simp [World.cell?, h]

theorem law_early (s : ByteArray) (i : Int) (u : UInt8) (w : World) (hm : s.size ≤ maxLen) (hk : 65536 < s.size) :
    Calls Try.prog 3 #[.string s, .int .i64 i, .int .u8 (u.toNat : Int)] w fun e w' => e = .returned (.bool true) ∧ Below w.heap.size w w' := by
  have hm' := hm
  unfold maxLen at hm
  go_enter Try.func3, Try.ntmps3
  go_wp2_with fail
  refine (bytes_any _ _ _ _ hm').mono ?_
  rintro e w' ⟨r, rfl, rfl⟩
  cases r
  · go_wp2_with fail
    go_ret
    exact ⟨rfl, Below.refl _ _⟩
  · go_wp2_with fail
    go_ret
    exact ⟨rfl, Below.refl _ _⟩

set_option maxHeartbeats 800000 in
theorem law_out (s : ByteArray) (i : Int) (u : UInt8) (w : World) (hm : s.size ≤ maxLen) (hk : ¬ 65536 < s.size) (hi : i < 0 ∨ (s.size : Int) ≤ i) :
    Calls Try.prog 3 #[.string s, .int .i64 i, .int .u8 (u.toNat : Int)] w fun e w' => e = .returned (.bool true) ∧ Below w.heap.size w w' := by
  have hm' := hm
  unfold maxLen at hm
  have HI : Hid (i < 0 ∨ (s.size : Int) ≤ i) := hi
  clear hi
  go_enter Try.func3, Try.ntmps3
  go_wp2_with fail
  refine (bytes_any _ _ _ _ hm').mono ?_
  rintro e w' ⟨r, rfl, rfl⟩
  cases r
  · go_wp2_with fail
    go_ret
    exact ⟨rfl, Below.refl _ _⟩
  · go_wp2_with fail
    refine (six_any u _).mono ?_
    rintro e w' ⟨rfl, bel⟩
    go_wp2_with fail
    refine (isID_any _ _ (by rw [six_size]; unfold maxLen; omega)).mono ?_
    rintro e w2 ⟨rfl, rfl⟩
    rw [isId_six]
    go_wp2_with fail
    refine (alnum_any _ _).mono ?_
    rintro e w3 ⟨rfl, rfl⟩
    have hne : (alI (u.toNat : Int) != alI (u.toNat : Int)) = false := by simp
    have BEL : Hid (Below _ _ _) := bel
    by_cases h0 : i < 0
    · go_wp2_with fail
      go_ret
      exact ⟨rfl, BEL.out⟩
    · have h1 : (s.size : Int) ≤ i := by rcases HI.out with h | h <;> omega
      go_wp2_with fail
      go_ret
      exact ⟨rfl, BEL.out⟩

set_option maxHeartbeats 1600000 in
theorem law_in (s : ByteArray) (k : Nat) (u : UInt8) (w : World) (hm : s.size ≤ maxLen) (hk : ¬ 65536 < s.size) (hi : k < s.size) :
    Calls Try.prog 3 #[.string s, .int .i64 k, .int .u8 (u.toNat : Int)] w fun e w' => e = .returned (.bool true) ∧ Below w.heap.size w w' := by
  have hm' := hm
  unfold maxLen at hm
  go_enter Try.func3, Try.ntmps3
  go_wp2_with fail
  refine (bytes_any _ _ _ _ hm').mono ?_
  rintro e w' ⟨r, rfl, rfl⟩
  cases r
  · go_wp2_with fail
    go_ret
    exact ⟨rfl, Below.refl _ _⟩
  · go_wp2_with fail
    refine (six_any u _).mono ?_
    rintro e w1 ⟨rfl, bel⟩
    go_wp2_with fail
    refine (isID_any _ _ (by rw [six_size]; unfold maxLen; omega)).mono ?_
    rintro e w2 ⟨rfl, rfl⟩
    rw [isId_six]
    go_wp2_with fail
    refine (alnum_any _ _).mono ?_
    rintro e w3 ⟨rfl, rfl⟩
    have hne : (alI (u.toNat : Int) != alI (u.toNat : Int)) = false := by simp
    have BEL : Hid (Below _ _ _) := bel
    have k1 : (k : Int) < (s.size : Int) := by omega
    have k2 : (k : Int) + 1 ≤ (s.size : Int) := by omega
    have hs1 : ∀ w, (Instr.slice 9 (.string s) none (some (.int .i64 (k : Int))) none).run Try.prog w = .ok (.string (s.extract 0 k)) w := fun w => by
      simp [go_sem]
      omega
    have hs2 : ∀ w, (Instr.slice 9 (.string s) (some (.int .i64 ((k : Int) + 1))) none none).run Try.prog w = .ok (.string (s.extract (k + 1) s.size)) w := fun w => by
      simp [go_sem]
      omega
    have hb1 := build_one u
    have hc1 : ∀ (w : World), (convert 26 9 (.slice (some ⟨w.heap.size, 0, none⟩) 1 1)).run Try.prog (w.alloc (.cells #[.int .u8 (u.toNat : Int)] 5)) = .ok (.string ⟨#[u]⟩) (w.alloc (.cells #[.int .u8 (u.toNat : Int)] 5)) := fun w => conv_one u _ _ (Array.getElem?_push_size)
    have hc2 : ∀ (w : World), (convert 26 9 (.slice (some ⟨w.heap.size, 0, none⟩) 1 1)).run Try.prog (w.alloc (.cells #[.int .u8 (u.toNat : Int)] 5)).drew = .ok (.string ⟨#[u]⟩) (w.alloc (.cells #[.int .u8 (u.toNat : Int)] 5)).drew := fun w => conv_one u _ _ (Array.getElem?_push_size)
    clear bel
    go_wp2_with fail
    go_big_region
    have hT : (splice s k u).size ≤ maxLen := by rw [splice_size s k u hi]; exact hm'
    have hf := splice_fwd s k u hi
    have hbk := splice_back s k u hi
    have e1 : s.extract 0 k ++ (⟨#[u]⟩ : ByteArray) ++ s.extract (k + 1) s.size = splice s k u := rfl
    rw [e1]
    clear hs1 hs2 hb1 hc1 hc2 e1
    have BEL2 : Hid (Below _ _ _) := ((BEL.out.alloc BEL.out.size (.cells #[.int .u8 (u.toNat : Int)] 5)).drew)
    generalize hw4 : (w3.alloc (Obj.cells #[Value.int IntKind.u8 (u.toNat : Int)] 5)).drew = w4 at BEL2 ⊢
    clear hw4 BEL
    generalize hes : isId s = bs at hf hbk
    generalize het : isId (splice s k u) = bt at hf hbk
    have HF : Hid (bs = true → bt = alI (u.toNat : Int)) := hf
    have HB : Hid (bt = true → bs = alI (s[k].toNat : Int)) := hbk
    clear hf hbk
    have cS := isID_any s w4 hm'
    have cT := isID_any (splice s k u) w4 hT
    rw [hes] at cS
    rw [het] at cT
    clear hes het hT
    go_wp2_with fail
    refine cS.mono ?_
    rintro e w5 ⟨rfl, rfl⟩
    go_wp2_with fail
    refine cT.mono ?_
    rintro e w6 ⟨rfl, rfl⟩
    clear cS cT hne
    cases bs
    · cases bt
      · go_wp2_with fail
        go_ret
        exact ⟨rfl, BEL2.out⟩
      · have h1 : false = alI (s[k].toNat : Int) := HB.out rfl
        have c6 : isId (six s[k]) = false := by rw [isId_six]; exact h1.symm
        have cI := isID_any (six s[k])
        rw [c6] at cI
        clear c6 h1
        go_wp2_with fail
        refine (six_any s[k] _).mono ?_
        rintro e w7 ⟨rfl, b7⟩
        have BEL3 : Hid (Below _ _ _) := BEL2.out.trans (b7.mono BEL2.out.size)
        clear b7
        go_wp2_with fail
        refine (cI _ (by rw [six_size]; unfold maxLen; omega)).mono ?_
        rintro e w8 ⟨rfl, rfl⟩
        go_wp2_with fail
        go_ret
        exact ⟨rfl, BEL3.out⟩
    · have h0 : bt = alI (u.toNat : Int) := HF.out rfl
      rw [← h0]
      clear h0
      cases bt
      · go_wp2_with fail
        go_ret
        exact ⟨rfl, BEL2.out⟩
      · have h1 : true = alI (s[k].toNat : Int) := HB.out rfl
        have c6 : isId (six s[k]) = true := by rw [isId_six]; exact h1.symm
        have cI := isID_any (six s[k])
        rw [c6] at cI
        clear c6 h1
        go_wp2_with fail
        refine (six_any s[k] _).mono ?_
        rintro e w7 ⟨rfl, b7⟩
        have BEL3 : Hid (Below _ _ _) := BEL2.out.trans (b7.mono BEL2.out.size)
        clear b7
        go_wp2_with fail
        refine (cI _ (by rw [six_size]; unfold maxLen; omega)).mono ?_
        rintro e w8 ⟨rfl, rfl⟩
        go_wp2_with fail
        go_ret
        exact ⟨rfl, BEL3.out⟩
end Go.Proofs.Qxb6628240a
