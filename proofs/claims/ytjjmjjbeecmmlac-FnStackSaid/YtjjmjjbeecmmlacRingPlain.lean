/-
  Plain: numbers that are passed along cells; a stack in cells.
-/
import Derived.Test.YtjjmjjbeecmmlacApartPlain
namespace Go.Proofs.Ytjjmjjbeecmmlac
set_option linter.unusedVariables false
set_option linter.unusedSimpArgs false

/-- The number at place p of the ring (the one in hand, and the cells) behind r rounds. -/
def ring (L : List (BitVec 64)) (r p : Nat) : BitVec 64 := L.getD ((p + (L.length - r)) % L.length) 0

section
variable {L : List (BitVec 64)} {r p : Nat}
theorem ring_first (hp : p < L.length) : ring L 0 p = L.getD p 0 := by
  unfold ring
  rw [Nat.sub_zero, Nat.add_mod_right, Nat.mod_eq_of_lt hp]
theorem ring_last (hp : p < L.length) : ring L L.length p = L.getD p 0 := by
  unfold ring
  rw [Nat.sub_self, Nat.add_zero, Nat.mod_eq_of_lt hp]
theorem ring_next (hr : r < L.length) : ring L (r + 1) (p + 1) = ring L r p := by
  unfold ring
  rw [show p + 1 + (L.length - (r + 1)) = p + (L.length - r) by omega]
theorem ring_turn (hr : r < L.length) (hp : p + 1 = L.length) : ring L (r + 1) 0 = ring L r p := by
  unfold ring
  rw [show p + (L.length - r) = (0 + (L.length - (r + 1))) + L.length by omega, Nat.add_mod_right]
end

/-- The cells in round r, when c of them have been passed. -/
def passed (L : List (BitVec 64)) (r c : Nat) : List (BitVec 64) := (List.range (L.length - 1)).map fun p => if p < c then ring L r p else ring L r (p + 1)

section
variable {L : List (BitVec 64)} {r c p : Nat}
@[simp] theorem passed_length : (passed L r c).length = L.length - 1 := by simp [passed]
theorem passed_get (hp : p < (passed L r c).length) : (passed L r c)[p] = if p < c then ring L r p else ring L r (p + 1) := by simp [passed]
theorem passed_getD (hp : p < L.length - 1) : (passed L r c).getD p 0 = if p < c then ring L r p else ring L r (p + 1) := by
  rw [← passed_get (by simpa using hp)]
  simp [hp]
theorem passed_set : (passed L r c).set c (ring L r c) = passed L r (c + 1) := by
  apply List.ext_getElem
  · simp
  · intro i h1 h2
    rw [List.getElem_set, passed_get, passed_get]
    by_cases e : c = i
    · subst e
      rw [if_pos rfl, if_pos (by omega)]
    · rw [if_neg e]
      by_cases h : i < c
      · rw [if_pos h, if_pos (by omega)]
      · rw [if_neg h, if_neg (by omega)]
theorem passed_all (hr : r < L.length) : passed L r (L.length - 1) = passed L (r + 1) 0 := by
  apply List.ext_getElem
  · simp
  · intro i h1 h2
    simp at h1
    rw [passed_get, passed_get, if_pos h1, if_neg (by omega), ring_next hr]
theorem passed_first {x : BitVec 64} {l : List (BitVec 64)} : passed (x :: l) 0 0 = l := by
  apply List.ext_getElem
  · simp
  · intro i h1 h2
    rw [passed_get, if_neg (by omega), ring_first (by simpa using h2)]
    simp [h2]
theorem passed_last {x : BitVec 64} {l : List (BitVec 64)} : passed (x :: l) (l.length + 1) 0 = l := by
  apply List.ext_getElem
  · simp
  · intro i h1 h2
    rw [passed_get, if_neg (by omega)]
    have := ring_last (L := x :: l) (p := i + 1) (by simpa using h2)
    rw [List.length_cons] at this
    rw [this]
    simp [h2]
end

/-! A stack: T is the stack behind a 0. -/
structure Stacked (st : List (BitVec 64)) (S : List Nat) (free : Nat) : Prop where
  len : st.length = 17
  le : free ≤ 17
  one : 1 ≤ free
  lt : ∀ s ∈ S, 1 ≤ s ∧ s < free
  apart : S.Nodup
  top : st.getD 0 0 = BitVec.ofNat 64 ((0 :: S).getD S.length 0)
  below : ∀ i, i < S.length → st.getD ((0 :: S).getD (i + 1) 0) 0 = BitVec.ofNat 64 ((0 :: S).getD i 0)

theorem nodup_le {n : Nat} : ∀ {l : List Nat}, l.Nodup → (∀ x ∈ l, x < n) → l.length ≤ n := by
  induction n with
  | zero =>
    intro l _ h
    cases l with
    | nil => simp
    | cons x l => exact absurd (h x (by simp)) (by omega)
  | succ n ih =>
    intro l hn h
    have h1 : (l.erase n).length ≤ n := ih (hn.erase n) fun x hx => by
      have h2 := h x (List.mem_of_mem_erase hx)
      have h3 : x ≠ n := fun e => by subst e; exact (List.Nodup.not_mem_erase hn) hx
      omega
    by_cases hm : n ∈ l
    · rw [List.length_erase_of_mem hm] at h1
      have : 0 < l.length := List.length_pos_of_mem hm
      omega
    · rw [List.erase_of_not_mem hm] at h1
      omega

theorem Stacked.short {st : List (BitVec 64)} {S : List Nat} {free : Nat} (h : Stacked st S free) : S.length ≤ 17 :=
  nodup_le h.apart fun s hs => by have := h.lt s hs; have := h.le; omega

theorem Stacked.first : Stacked (List.replicate 17 0) [] 1 := ⟨by simp, by omega, by omega, by simp, by simp, by simp, by simp⟩

theorem Stacked.push {st : List (BitVec 64)} {S : List Nat} {free : Nat} (h : Stacked st S free) (hf : free ≤ 16) :
    Stacked ((st.set free (BitVec.ofNat 64 ((0 :: S).getD S.length 0))).set 0 (BitVec.ofNat 64 free)) (S ++ [free]) (free + 1) := by
  have hl := h.len
  have h1 := h.one
  refine ⟨by simp [hl], by omega, by omega, ?_, ?_, ?_, ?_⟩
  · intro s hs
    rcases List.mem_append.1 hs with hs | hs
    · have := h.lt s hs; omega
    · simp at hs; omega
  · rw [List.nodup_append]
    refine ⟨h.apart, by simp, ?_⟩
    intro a ha b hb
    simp at hb
    have := h.lt a ha
    omega
  · rw [getD_set_self (by simp; omega)]
    simp [List.getElem?_append]
  · intro i hi
    simp at hi
    by_cases he : i = S.length
    · subst he
      have e1 : (0 :: (S ++ [free])).getD (S.length + 1) 0 = free := by simp [List.getElem?_append]
      have e2 : (0 :: (S ++ [free])).getD S.length 0 = (0 :: S).getD S.length 0 := by
        cases hS : S.length with
        | zero => simp
        | succ m => simp [List.getElem?_append, hS]
      rw [e1, e2, getD_set_other (by omega), getD_set_self (by omega)]
    · have hi' : i < S.length := by omega
      have e1 : (0 :: (S ++ [free])).getD (i + 1) 0 = (0 :: S).getD (i + 1) 0 := by simp [List.getElem?_append, hi']
      have e2 : (0 :: (S ++ [free])).getD i 0 = (0 :: S).getD i 0 := by
        cases i with
        | zero => simp
        | succ m => simp [List.getElem?_append, show m < S.length by omega]
      have hm : (0 :: S).getD (i + 1) 0 ∈ S := by simp [hi']
      have := h.lt _ hm
      rw [e1, e2, getD_set_other (by omega), getD_set_other (by omega)]
      exact h.below i hi'

/-- One number down: the top is what is below it. -/
theorem Stacked.down {st : List (BitVec 64)} {S : List Nat} {free i : Nat} (h : Stacked st S free) (hi : S.length = i + 1) : Stacked (st.set 0 (BitVec.ofNat 64 ((0 :: S).getD i 0))) (S.take i) free := by
  have hl := h.len
  refine ⟨by simp [hl], h.le, h.one, fun s hs => h.lt s (List.mem_of_mem_take hs), h.apart.sublist (List.take_sublist _ _), ?_, ?_⟩
  · rw [getD_set_self (by omega)]
    have e : (S.take i).length = i := by simp [hi]
    rw [e]
    cases i with
    | zero => simp
    | succ m => simp [List.getElem?_take]
  · intro j hj
    simp [hi] at hj
    have hj' : j < i := by omega
    have e1 : (0 :: S.take i).getD (j + 1) 0 = (0 :: S).getD (j + 1) 0 := by simp [List.getElem?_take, hj']
    have e2 : (0 :: S.take i).getD j 0 = (0 :: S).getD j 0 := by
      cases j with
      | zero => simp
      | succ m => simp [List.getElem?_take, show m < i by omega]
    have hm : (0 :: S).getD (j + 1) 0 ∈ S := by simp [show j < S.length by omega]
    have := h.lt _ hm
    rw [e1, e2, getD_set_other (by omega)]
    exact h.below j (by omega)
end Go.Proofs.Ytjjmjjbeecmmlac
