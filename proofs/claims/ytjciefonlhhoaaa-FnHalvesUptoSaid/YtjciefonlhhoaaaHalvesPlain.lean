/-
  Plain: a script over both halves of the cells.
-/
import Derived.Test.YtjciefonlhhoaaaHalf
namespace Go.Proofs.Ytjciefonlhhoaaa
set_option linter.unusedVariables false
set_option linter.unusedSimpArgs false

def split (l : List (BitVec 64)) : List (BitVec 32) := l.flatMap fun x => [lo x, hi x]
theorem split_cons (x : BitVec 64) (l : List (BitVec 64)) : split (x :: l) = lo x :: hi x :: split l := rfl
theorem split_append (l r : List (BitVec 64)) : split (l ++ r) = split l ++ split r := by simp [split]
theorem split_length : ∀ l : List (BitVec 64), (split l).length = 2 * l.length := by
  intro l
  induction l with
  | nil => rfl
  | cons x l ih => rw [split_cons]; simp [ih]; omega
theorem split_low : ∀ (l : List (BitVec 64)) (j : Nat), (split l)[2 * j]? = l[j]?.map lo := by
  intro l
  induction l with
  | nil => intro j; simp [split]
  | cons x l ih =>
    intro j
    cases j with
    | zero => rfl
    | succ j =>
      rw [split_cons, show 2 * (j + 1) = 2 * j + 1 + 1 by omega, List.getElem?_cons_succ, List.getElem?_cons_succ, ih, List.getElem?_cons_succ]
theorem split_high : ∀ (l : List (BitVec 64)) (j : Nat), (split l)[2 * j + 1]? = l[j]?.map hi := by
  intro l
  induction l with
  | nil => intro j; simp [split]
  | cons x l ih =>
    intro j
    cases j with
    | zero => rfl
    | succ j =>
      rw [split_cons, show 2 * (j + 1) + 1 = 2 * j + 1 + 1 + 1 by omega, List.getElem?_cons_succ, List.getElem?_cons_succ, ih, List.getElem?_cons_succ]
theorem split_set (l : List (BitVec 64)) (j : Nat) (v : BitVec 64) : split (l.set j v) = ((split l).set (2 * j) (lo v)).set (2 * j + 1) (hi v) := by
  apply List.ext_getElem?
  intro i
  obtain ⟨q, hq⟩ : ∃ q, i / 2 = q := ⟨_, rfl⟩
  by_cases hi2 : i % 2 = 0
  · obtain rfl : i = 2 * q := by omega
    have r : (((split l).set (2 * j) (lo v)).set (2 * j + 1) (hi v))[2 * q]? = ((split l).set (2 * j) (lo v))[2 * q]? := List.getElem?_set_ne (by omega)
    rw [split_low, r]
    by_cases e : j = q
    · subst e
      by_cases hl : j < l.length
      · rw [List.getElem?_set_self hl, List.getElem?_set_self (by rw [split_length]; omega)]; rfl
      · rw [List.set_eq_of_length_le (by omega), List.set_eq_of_length_le (by rw [split_length]; omega), split_low]
    · rw [List.getElem?_set_ne e, List.getElem?_set_ne (by omega), split_low]
  · obtain rfl : i = 2 * q + 1 := by omega
    rw [split_high]
    by_cases e : j = q
    · subst e
      by_cases hl : j < l.length
      · rw [List.getElem?_set_self hl, List.getElem?_set_self (by rw [List.length_set, split_length]; omega)]; rfl
      · rw [List.set_eq_of_length_le (by omega), List.set_eq_of_length_le (by rw [List.length_set, split_length]; omega), List.set_eq_of_length_le (by rw [split_length]; omega), split_high]
    · rw [List.getElem?_set_ne e, List.getElem?_set_ne (by omega), List.getElem?_set_ne (by omega), split_high]
theorem lo_zero : lo 0 = 0 := rfl
theorem hi_zero : hi 0 = 0 := rfl
theorem split_getD_low (l : List (BitVec 64)) (j : Nat) : (split l).getD (2 * j) 0 = lo (l.getD j 0) := by
  rw [List.getD_eq_getElem?_getD, List.getD_eq_getElem?_getD, split_low]
  cases l[j]? <;> rfl
theorem split_getD_high (l : List (BitVec 64)) (j : Nat) : (split l).getD (2 * j + 1) 0 = hi (l.getD j 0) := by
  rw [List.getD_eq_getElem?_getD, List.getD_eq_getElem?_getD, split_high]
  cases l[j]? <;> rfl

theorem lo_bit (x : BitVec 64) {i : Nat} (h : i < 32) : (lo x).getLsbD i = x.getLsbD i := by
  unfold lo
  rw [BitVec.getLsbD_ofNat]
  simp [h, BitVec.getLsbD]
theorem hi_bit (x : BitVec 64) {i : Nat} (h : i < 32) : (hi x).getLsbD i = x.getLsbD (i + 32) := by
  unfold hi
  rw [BitVec.getLsbD_ofNat, show (4294967296 : Nat) = 2 ^ 32 by decide, Nat.testBit_div_two_pow]
  simp [h, BitVec.getLsbD]
theorem lo_and (x y : BitVec 64) : lo (x &&& y) = lo x &&& lo y := by
  apply BitVec.eq_of_getLsbD_eq
  intro i h
  rw [lo_bit _ h, BitVec.getLsbD_and, BitVec.getLsbD_and, lo_bit _ h, lo_bit _ h]
theorem lo_or (x y : BitVec 64) : lo (x ||| y) = lo x ||| lo y := by
  apply BitVec.eq_of_getLsbD_eq
  intro i h
  rw [lo_bit _ h, BitVec.getLsbD_or, BitVec.getLsbD_or, lo_bit _ h, lo_bit _ h]
theorem hi_and (x y : BitVec 64) : hi (x &&& y) = hi x &&& hi y := by
  apply BitVec.eq_of_getLsbD_eq
  intro i h
  rw [hi_bit _ h, BitVec.getLsbD_and, BitVec.getLsbD_and, hi_bit _ h, hi_bit _ h]
theorem hi_or (x y : BitVec 64) : hi (x ||| y) = hi x ||| hi y := by
  apply BitVec.eq_of_getLsbD_eq
  intro i h
  rw [hi_bit _ h, BitVec.getLsbD_or, BitVec.getLsbD_or, hi_bit _ h, hi_bit _ h]

/-- Add and CompareAndSwap become Swap. -/
def swapped (κ : BitVec 8) : BitVec 8 := if κ = 2#8 ∨ κ = 4#8 then 3#8 else κ
def swapCall (c : Call 64) : Call 64 := ⟨swapped c.kind, c.cell, c.a, c.b⟩
theorem swapped_not (κ : BitVec 8) : ¬ swapped κ = 2#8 ∧ ¬ swapped κ = 4#8 := by
  unfold swapped
  split
  · decide
  · rename_i h
    exact ⟨fun e => h (.inl e), fun e => h (.inr e)⟩
def lower (c : Call 64) : Call 32 := ⟨c.kind, 2 * c.cell, lo c.a, lo c.b⟩
def upper (c : Call 64) : Call 32 := ⟨c.kind, 2 * c.cell + 1, hi c.a, hi c.b⟩
def halved (sc : List (Call 64)) : List (Call 32) := sc.flatMap fun c => [lower c, upper c]
theorem lower_step {c : Call 64} (h2 : ¬ c.kind = 2#8) (h4 : ¬ c.kind = 4#8) (o : BitVec 64) : (lower c).step (lo o) = (lo (c.step o).1, lo (c.step o).2) := by
  unfold Call.step lower
  simp only [if_neg h2, if_neg h4]
  split
  · rfl
  split
  · rfl
  split
  · rfl
  split
  · simp only [lo_and]
  split
  · simp only [lo_or]
  · rfl
theorem upper_step {c : Call 64} (h2 : ¬ c.kind = 2#8) (h4 : ¬ c.kind = 4#8) (o : BitVec 64) : (upper c).step (hi o) = (hi (c.step o).1, hi (c.step o).2) := by
  unfold Call.step upper
  simp only [if_neg h2, if_neg h4]
  split
  · rfl
  split
  · show (0, hi c.a) = (hi 0, hi c.a); rw [hi_zero]
  split
  · rfl
  split
  · simp only [hi_and]
  split
  · simp only [hi_or]
  · show (0, hi o) = (hi 0, hi o); rw [hi_zero]
theorem halves_run : ∀ (sc : List (Call 64)) (st : List (BitVec 64)), (∀ c ∈ sc, ¬ c.kind = 2#8 ∧ ¬ c.kind = 4#8) → runL (split st) (halved sc) = (split (runL st sc).1, split (runL st sc).2) := by
  intro sc
  induction sc with
  | nil => intro st _; rfl
  | cons c sc ih =>
    intro st h
    obtain ⟨h2, h4⟩ := h c (by simp)
    have e : halved (c :: sc) = lower c :: upper c :: halved sc := rfl
    have hne : ¬ 2 * c.cell = 2 * c.cell + 1 := by omega
    rw [e]
    simp only [runL]
    have e1 : (lower c).cell = 2 * c.cell := rfl
    have e2 : (upper c).cell = 2 * c.cell + 1 := rfl
    rw [e1, e2, split_getD_low, lower_step h2 h4]
    have e3 : ((split st).set (2 * c.cell) (lo (c.step (st.getD c.cell 0)).2)).getD (2 * c.cell + 1) 0 = hi (st.getD c.cell 0) := by
      rw [List.getD_eq_getElem?_getD, List.getElem?_set_ne hne, ← List.getD_eq_getElem?_getD, split_getD_high]
    simp only [e3, upper_step h2 h4]
    rw [← split_set, ih _ (fun d hd => h d (by simp [hd]))]
    rfl
end Go.Proofs.Ytjciefonlhhoaaa
