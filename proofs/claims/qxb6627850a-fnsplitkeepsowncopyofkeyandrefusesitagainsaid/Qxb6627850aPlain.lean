/-
  THE PLAIN LAWS OF SEAT b6627850a: no Go in sight. Byte strings in order, sorted lists of them, the insertion of one key.
-/
import Derived.Lib.Bytealg
namespace Go.Proofs.Qxb6627850a
open Go.Lib (compareBytes)

abbrev Key := List UInt8

theorem cb_self : ∀ x : Key, compareBytes x x = 0
  | [] => rfl
  | a :: l => by
    unfold compareBytes
    rw [if_neg (UInt8.lt_irrefl a), if_neg (UInt8.lt_irrefl a)]
    exact cb_self l

theorem cb_eq : ∀ x y : Key, compareBytes x y = 0 → x = y
  | [], [], _ => rfl
  | [], _ :: _, h => by simp [compareBytes] at h
  | _ :: _, [], h => by simp [compareBytes] at h
  | a :: l, b :: m, h => by
    unfold compareBytes at h
    by_cases h1 : a < b
    · rw [if_pos h1] at h; cases h
    · rw [if_neg h1] at h
      by_cases h2 : b < a
      · rw [if_pos h2] at h; cases h
      · rw [if_neg h2] at h
        have e : a = b := UInt8.le_antisymm (UInt8.not_lt.1 h2) (UInt8.not_lt.1 h1)
        rw [e, cb_eq l m h]

theorem cb_zero (x y : Key) : compareBytes x y = 0 ↔ x = y := ⟨cb_eq x y, fun h => h ▸ cb_self x⟩

theorem cb_three : ∀ x y : Key, compareBytes x y = -1 ∨ compareBytes x y = 0 ∨ compareBytes x y = 1
  | [], [] => by simp [compareBytes]
  | [], _ :: _ => by simp [compareBytes]
  | _ :: _, [] => by simp [compareBytes]
  | a :: l, b :: m => by
    unfold compareBytes
    by_cases h1 : a < b
    · simp [h1]
    · rw [if_neg h1]
      by_cases h2 : b < a
      · simp [h2]
      · rw [if_neg h2]; exact cb_three l m

theorem cb_neg : ∀ x y : Key, compareBytes y x = - compareBytes x y
  | [], [] => by simp [compareBytes]
  | [], _ :: _ => by simp [compareBytes]
  | _ :: _, [] => by simp [compareBytes]
  | a :: l, b :: m => by
    unfold compareBytes
    by_cases h1 : a < b
    · have : ¬ b < a := UInt8.lt_asymm h1
      simp [h1, this]
    · by_cases h2 : b < a
      · simp [h1, h2]
      · simp only [h1, h2, if_false]; exact cb_neg l m

/-- x stands ahead of y. -/
abbrev Lt (x y : Key) : Prop := compareBytes x y < 0

theorem lt_trans : ∀ {x y z : Key}, Lt x y → Lt y z → Lt x z
  | [], [], _, h, _ => by simp [Lt, compareBytes] at h
  | _ :: _, [], _, h, _ => by simp [Lt, compareBytes] at h
  | _, _ :: _, [], _, h => by simp [Lt, compareBytes] at h
  | [], _ :: _, _ :: _, _, _ => by simp [Lt, compareBytes]
  | a :: l, b :: m, c :: n, h1, h2 => by
    unfold Lt compareBytes at h1 h2 ⊢
    by_cases hab : a < b
    · by_cases hbc : b < c
      · rw [if_pos (UInt8.lt_trans hab hbc)]; omega
      · rw [if_neg hbc] at h2
        by_cases hcb : c < b
        · rw [if_pos hcb] at h2; omega
        · have e : b = c := UInt8.le_antisymm (UInt8.not_lt.1 hcb) (UInt8.not_lt.1 hbc)
          rw [← e, if_pos hab]; omega
    · rw [if_neg hab] at h1
      by_cases hba : b < a
      · rw [if_pos hba] at h1; omega
      · rw [if_neg hba] at h1
        have e : a = b := UInt8.le_antisymm (UInt8.not_lt.1 hba) (UInt8.not_lt.1 hab)
        rw [e]
        by_cases hbc : b < c
        · rw [if_pos hbc]; omega
        · rw [if_neg hbc] at h2 ⊢
          by_cases hcb : c < b
          · rw [if_pos hcb] at h2; omega
          · rw [if_neg hcb] at h2 ⊢
            exact lt_trans (x := l) (y := m) (z := n) h1 h2

theorem lt_irrefl (x : Key) : ¬ Lt x x := by unfold Lt; rw [cb_self]; omega
theorem lt_asymm {x y : Key} (h : Lt x y) : ¬ Lt y x := fun k => lt_irrefl x (lt_trans h k)
theorem lt_ne {x y : Key} (h : Lt x y) : x ≠ y := fun e => lt_irrefl y (e ▸ h)
theorem lt_total (x y : Key) : Lt x y ∨ x = y ∨ Lt y x := by
  unfold Lt
  rw [cb_neg x y, ← cb_zero x y]
  omega
theorem le_lt_trans {x y z : Key} (h : ¬ Lt y x) (k : Lt y z) : Lt x z := by
  rcases lt_total x y with a | a | a
  · exact lt_trans a k
  · exact a ▸ k
  · exact absurd a h

/-- strictly increasing -/
def Sorted (s : List Key) : Prop := ∀ i j (hi : i < j) (hj : j < s.length), Lt (s[i]'(by omega)) s[j]

theorem sorted_of_steps (s : List Key) (h : ∀ i (hi : i + 1 < s.length), Lt (s[i]'(by omega)) (s[i + 1])) : Sorted s := by
  intro i j hij hj
  induction j with
  | zero => omega
  | succ j ih =>
    by_cases e : i = j
    · subst e; exact h i hj
    · exact lt_trans (ih (by omega) (by omega)) (h j hj)

theorem sorted_cons {x : Key} {s : List Key} : Sorted (x :: s) ↔ (∀ y ∈ s, Lt x y) ∧ Sorted s := by
  constructor
  · intro h
    refine ⟨fun y hy => ?_, fun i j hij hj => ?_⟩
    · obtain ⟨i, hi, rfl⟩ := List.getElem_of_mem hy
      exact h 0 (i + 1) (by omega) (by simp; omega)
    · exact h (i + 1) (j + 1) (by omega) (by simp; omega)
  · rintro ⟨h1, h2⟩ i j hij hj
    cases j with
    | zero => omega
    | succ j =>
      cases i with
      | zero => exact h1 _ (List.getElem_mem _)
      | succ i => exact h2 i j (by omega) (by simpa using hj)

/-- two strictly increasing lists with the same members are one -/
theorem sorted_ext : ∀ {s t : List Key}, Sorted s → Sorted t → (∀ x, x ∈ s ↔ x ∈ t) → s = t
  | [], [], _, _, _ => rfl
  | [], y :: t, _, _, h => by have := (h y).2 (List.mem_cons_self ..); cases this
  | x :: s, [], _, _, h => by have := (h x).1 (List.mem_cons_self ..); cases this
  | x :: s, y :: t, hs, ht, h => by
    rw [sorted_cons] at hs ht
    have exy : x = y := by
      rcases List.mem_cons.1 ((h x).1 (List.mem_cons_self ..)) with e | e
      · exact e
      · rcases List.mem_cons.1 ((h y).2 (List.mem_cons_self ..)) with k | k
        · exact k.symm
        · exact absurd (hs.1 _ k) (lt_asymm (ht.1 _ e))
    subst exy
    rw [sorted_ext (s := s) (t := t) hs.2 ht.2 (fun z => ?_)]
    constructor
    · intro hz
      rcases List.mem_cons.1 ((h z).1 (List.mem_cons_of_mem _ hz)) with e | e
      · exact absurd (hs.1 _ hz) (e ▸ lt_irrefl _)
      · exact e
    · intro hz
      rcases List.mem_cons.1 ((h z).2 (List.mem_cons_of_mem _ hz)) with e | e
      · exact absurd (ht.1 _ hz) (e ▸ lt_irrefl _)
      · exact e

/-- THE MODEL: the sorted set s with k added; refused where k is empty or present. p: how many keys stand ahead of k. -/
def below (s : List Key) (k : Key) : Nat := (s.filter fun x => decide (Lt x k)).length
def insAt (s : List Key) (p : Nat) (k : Key) : List Key := s.take p ++ k :: s.drop p
def ok (s : List Key) (k : Key) : Bool := !k.isEmpty && !s.contains k
def ins (s : List Key) (k : Key) : List Key := if ok s k then insAt s (below s k) k else s

theorem below_le (s : List Key) (k : Key) : below s k ≤ s.length := List.length_filter_le _ _

theorem mem_insAt {s : List Key} {p : Nat} {k x : Key} : x ∈ insAt s p k ↔ x = k ∨ x ∈ s := by
  unfold insAt
  have e : s = s.take p ++ s.drop p := (List.take_append_drop p s).symm
  constructor
  · intro h
    rcases List.mem_append.1 h with h | h
    · exact Or.inr (List.mem_of_mem_take h)
    · rcases List.mem_cons.1 h with h | h
      · exact Or.inl h
      · exact Or.inr (List.mem_of_mem_drop h)
  · intro h
    rcases h with rfl | h
    · simp
    · rw [e] at h
      rcases List.mem_append.1 h with h | h
      · exact List.mem_append.2 (Or.inl h)
      · exact List.mem_append.2 (Or.inr (List.mem_cons_of_mem _ h))

theorem mem_ins {s : List Key} {k x : Key} : x ∈ ins s k ↔ x ∈ s ∨ (x = k ∧ k ≠ []) := by
  unfold ins
  by_cases h : ok s k = true
  · rw [if_pos h, mem_insAt]
    unfold ok at h
    simp at h
    constructor
    · rintro (rfl | h1)
      · exact Or.inr ⟨rfl, h.1⟩
      · exact Or.inl h1
    · rintro (h1 | ⟨rfl, _⟩)
      · exact Or.inr h1
      · exact Or.inl rfl
  · rw [if_neg h]
    unfold ok at h
    simp at h
    constructor
    · exact Or.inl
    · rintro (h1 | ⟨rfl, h2⟩)
      · exact h1
      · exact h h2

/-- a place p that parts the list in what is ahead of k and what is not, is the count -/
theorem below_of_parts : ∀ {s : List Key} {k : Key} {p : Nat}, p ≤ s.length → (∀ i (hi : i < s.length), i < p → Lt s[i] k) → (∀ i (hi : i < s.length), p ≤ i → ¬ Lt s[i] k) → below s k = p
  | [], _, p, hp, _, _ => by simp at hp; subst hp; rfl
  | x :: s, k, 0, _, _, h2 => by
    have hx : ¬ Lt x k := h2 0 (by simp) (Nat.zero_le _)
    have ih := below_of_parts (s := s) (k := k) (p := 0) (Nat.zero_le _) (fun i _ h => absurd h (by omega)) (fun i hi _ => h2 (i + 1) (by simp; omega) (Nat.zero_le _))
    unfold below at ih ⊢
    rw [List.filter_cons, if_neg (by simpa using hx)]
    exact ih
  | x :: s, k, p + 1, hp, h1, h2 => by
    have hx : Lt x k := h1 0 (by simp) (by omega)
    have ih := below_of_parts (s := s) (k := k) (p := p) (by simp at hp; omega) (fun i hi h => h1 (i + 1) (by simp; omega) (by omega)) (fun i hi h => h2 (i + 1) (by simp; omega) (by omega))
    unfold below at ih ⊢
    rw [List.filter_cons, if_pos (by simpa using hx), List.length_cons, ih]

/-- in a sorted list the count parts it -/
theorem parts_of_sorted : ∀ {s : List Key} (k : Key), Sorted s → (∀ i (hi : i < s.length), i < below s k → Lt s[i] k) ∧ (∀ i (hi : i < s.length), below s k ≤ i → ¬ Lt s[i] k)
  | [], _, _ => ⟨fun i hi => absurd hi (by simp), fun i hi => absurd hi (by simp)⟩
  | x :: s, k, h => by
    rw [sorted_cons] at h
    have ih := parts_of_sorted k h.2
    by_cases hx : Lt x k
    · have e : below (x :: s) k = below s k + 1 := by unfold below; rw [List.filter_cons, if_pos (by simpa using hx), List.length_cons]
      rw [e]
      refine ⟨fun i hi hp => ?_, fun i hi hp => ?_⟩
      · cases i with
        | zero => exact hx
        | succ i => exact ih.1 i (by simpa using hi) (by omega)
      · cases i with
        | zero => omega
        | succ i => exact ih.2 i (by simpa using hi) (by omega)
    · have hall : ∀ y ∈ s, ¬ Lt y k := fun y hy hk => hx (lt_trans (h.1 y hy) hk)
      have e : below (x :: s) k = 0 := by
        unfold below
        rw [List.filter_cons, if_neg (by simpa using hx), List.length_eq_zero_iff, List.filter_eq_nil_iff]
        intro y hy
        simpa using hall y hy
      rw [e]
      refine ⟨fun i hi hp => absurd hp (by omega), fun i hi _ => ?_⟩
      cases i with
      | zero => exact hx
      | succ i => exact hall _ (List.getElem_mem _)

theorem sorted_append {s t : List Key} (hs : Sorted s) (ht : Sorted t) (h : ∀ x ∈ s, ∀ y ∈ t, Lt x y) : Sorted (s ++ t) := by
  induction s with
  | nil => exact ht
  | cons x s ih =>
    rw [sorted_cons] at hs
    rw [List.cons_append, sorted_cons]
    refine ⟨fun y hy => ?_, ih hs.2 (fun a ha b hb => h a (List.mem_cons_of_mem _ ha) b hb)⟩
    rcases List.mem_append.1 hy with k | k
    · exact hs.1 y k
    · exact h x (List.mem_cons_self ..) y k

theorem sorted_take {s : List Key} (h : Sorted s) (p : Nat) : Sorted (s.take p) := by
  intro i j hij hj
  rw [List.length_take] at hj
  rw [List.getElem_take, List.getElem_take]
  exact h i j hij (by omega)
theorem sorted_drop {s : List Key} (h : Sorted s) (p : Nat) : Sorted (s.drop p) := by
  intro i j hij hj
  rw [List.length_drop] at hj
  rw [List.getElem_drop, List.getElem_drop]
  exact h (p + i) (p + j) (by omega) (by omega)

theorem sorted_ins {s : List Key} (k : Key) (h : Sorted s) : Sorted (ins s k) := by
  unfold ins
  by_cases hk : ok s k = true
  · rw [if_pos hk]
    unfold ok at hk
    simp at hk
    have hp := parts_of_sorted k h
    unfold insAt
    have htk : ∀ x ∈ s.take (below s k), Lt x k := fun x hx => by
      obtain ⟨i, hi, rfl⟩ := List.getElem_of_mem hx
      rw [List.length_take] at hi
      rw [List.getElem_take]
      exact hp.1 i (by omega) (by omega)
    have hdk : ∀ x ∈ s.drop (below s k), Lt k x := fun x hx => by
      have hx' := List.mem_of_mem_drop hx
      obtain ⟨i, hi, rfl⟩ := List.getElem_of_mem hx
      rw [List.length_drop] at hi
      have hn := hp.2 (below s k + i) (by omega) (by omega)
      rw [List.getElem_drop] at hx' ⊢
      rcases lt_total (s[below s k + i]) k with a | a | a
      · exact absurd a hn
      · exact absurd (a ▸ hx') hk.2
      · exact a
    refine sorted_append (sorted_take h _) (sorted_cons.2 ⟨hdk, sorted_drop h _⟩) (fun x hx y hy => ?_)
    rcases List.mem_cons.1 hy with rfl | hy
    · exact htk x hx
    · exact lt_trans (htk x hx) (hdk y hy)
  · rw [if_neg hk]; exact h

/-- THE TWO ORDERS END EQUAL -/
theorem ins_comm {s : List Key} (a b : Key) (h : Sorted s) : ins (ins s a) b = ins (ins s b) a :=
  sorted_ext (sorted_ins b (sorted_ins a h)) (sorted_ins a (sorted_ins b h)) (fun x => by simp only [mem_ins]; constructor <;> (rintro ((h | h) | h) <;> simp [h]))

theorem length_insAt (s : List Key) (p : Nat) (k : Key) : (insAt s p k).length = s.length + 1 := by
  unfold insAt
  rw [List.length_append, List.length_cons, List.length_take, List.length_drop]
  omega

theorem ins_of_ok {s : List Key} {k : Key} (h : ok s k = true) : ins s k = insAt s (below s k) k := by unfold ins; rw [if_pos h]
theorem ins_of_not {s : List Key} {k : Key} (h : ok s k = false) : ins s k = s := by unfold ins; rw [if_neg (by simp [h])]

theorem not_ok_ins {s : List Key} {k : Key} : ok (ins s k) k = false := by
  unfold ok
  by_cases hk : k = []
  · simp [hk]
  · have : k ∈ ins s k := mem_ins.2 (Or.inr ⟨rfl, hk⟩)
    simp [this]

end Go.Proofs.Qxb6627850a
