/-
  Plain: bits. Which call decides a bit at last; cells as sets of numbers.
-/
import Derived.Test.YtjjmjjbeecmmlaeApartPlain
namespace Go.Proofs.Ytjjmjjbeecmmlae
set_option linter.unusedVariables false
set_option linter.unusedSimpArgs false

/-- The bits that a call decides, and what it makes of them. -/
def ownBits (d : Call 64) : BitVec 64 := if d.kind = 6#8 then d.a else ~~~d.a
def madeBits (d : Call 64) : BitVec 64 := if d.kind = 6#8 then d.a else 0#64

/-- The state of a cell behind an And or an Or. -/
theorem bit_step (d : Call 64) (old : BitVec 64) (h : d.kind = 5#8 ∨ d.kind = 6#8) : (d.step old).2 = if d.kind = 6#8 then old ||| d.a else old &&& d.a := by
  rcases h with h | h
  · rw [Call.step5 _ _ h]; simp [h]
  · rw [Call.step6 _ _ h]; simp [h]

/-- What a call decides is as it made it, if no later one has decided it. -/
theorem bit_here (d : Call 64) (old last dec : BitVec 64) (h : d.kind = 5#8 ∨ d.kind = 6#8) (hi : last &&& ~~~dec = (d.step old).2 &&& ~~~dec) : last &&& (ownBits d &&& ~~~dec) = madeBits d &&& (ownBits d &&& ~~~dec) := by
  have e : last &&& (ownBits d &&& ~~~dec) = (last &&& ~~~dec) &&& ownBits d := by
    rw [BitVec.and_comm (ownBits d), ← BitVec.and_assoc]
  rw [e, hi, bit_step d old h]
  unfold ownBits madeBits
  apply BitVec.eq_of_getLsbD_eq
  intro i hi
  rcases h with h | h
  · have h6 : ¬ d.kind = 6#8 := by rw [h]; decide
    simp only [if_neg h6, BitVec.getLsbD_and, BitVec.getLsbD_not, BitVec.getLsbD_zero, hi, decide_true, Bool.true_and]
    cases old.getLsbD i <;> cases d.a.getLsbD i <;> cases dec.getLsbD i <;> rfl
  · simp only [if_pos h, BitVec.getLsbD_and, BitVec.getLsbD_or, BitVec.getLsbD_not, hi, decide_true, Bool.true_and]
    cases old.getLsbD i <;> cases d.a.getLsbD i <;> cases dec.getLsbD i <;> rfl

/-- What is not decided yet is as it was before the call. -/
theorem bit_before (d : Call 64) (old last dec : BitVec 64) (h : d.kind = 5#8 ∨ d.kind = 6#8) (hi : last &&& ~~~dec = (d.step old).2 &&& ~~~dec) : last &&& ~~~(dec ||| (ownBits d &&& ~~~dec)) = old &&& ~~~(dec ||| (ownBits d &&& ~~~dec)) := by
  have e : ∀ x : BitVec 64, x &&& ~~~(dec ||| (ownBits d &&& ~~~dec)) = (x &&& ~~~dec) &&& ~~~(ownBits d) := by
    intro x
    apply BitVec.eq_of_getLsbD_eq
    intro i hi
    simp only [BitVec.getLsbD_and, BitVec.getLsbD_or, BitVec.getLsbD_not, hi, decide_true, Bool.true_and]
    cases x.getLsbD i <;> cases dec.getLsbD i <;> cases (ownBits d).getLsbD i <;> rfl
  rw [e, e, hi, bit_step d old h]
  unfold ownBits
  apply BitVec.eq_of_getLsbD_eq
  intro i hi
  rcases h with h | h
  · have h6 : ¬ d.kind = 6#8 := by rw [h]; decide
    simp only [if_neg h6, BitVec.getLsbD_and, BitVec.getLsbD_not, hi, decide_true, Bool.true_and]
    cases old.getLsbD i <;> cases d.a.getLsbD i <;> cases dec.getLsbD i <;> rfl
  · simp only [if_pos h, BitVec.getLsbD_and, BitVec.getLsbD_or, BitVec.getLsbD_not, hi, decide_true, Bool.true_and]
    cases old.getLsbD i <;> cases d.a.getLsbD i <;> cases dec.getLsbD i <;> rfl

/-- The state of cell c before call k, and behind it. -/
def before (st : List (BitVec 64)) (sc : List (Call 64)) (c k : Nat) : BitVec 64 := (runL st (sc.take k)).2.getD c 0

theorem before_hit {st : List (BitVec 64)} {sc : List (Call 64)} {c k : Nat} {d : Call 64} (hk : k < sc.length) (hd : sc[k] = d) (hc : d.cell = c) (hl : c < st.length) : before st sc c (k + 1) = (d.step (before st sc c k)).2 := by
  unfold before
  rw [runL_take_succ hk, hd, hc]
  exact getD_set_self (by rw [runL_snd_length]; exact hl) _
theorem before_miss {st : List (BitVec 64)} {sc : List (Call 64)} {c k : Nat} {d : Call 64} (hk : k < sc.length) (hd : sc[k] = d) (hc : ¬ d.cell = c) : before st sc c (k + 1) = before st sc c k := by
  unfold before
  rw [runL_take_succ hk, hd]
  exact getD_set_other hc _

/-! Four cells as a set of numbers from 0 to 255. -/
def has (st : List (BitVec 64)) (x : Nat) : Bool := (st.getD (x / 64) 0).getLsbD (x % 64)

/-- The call that puts x in, or takes it out. -/
def bitCall (x : BitVec 8) (put : Bool) : Call 64 :=
  if put then ⟨6#8, x.toNat / 64, BitVec.ofNat 64 (2 ^ (x.toNat % 64)), 0⟩ else ⟨5#8, x.toNat / 64, ~~~BitVec.ofNat 64 (2 ^ (x.toNat % 64)), 0⟩

theorem twoPow_bit (i j : Nat) (hj : j < 64) (hi : i < 64) : (BitVec.ofNat 64 (2 ^ j)).getLsbD i = decide (i = j) := by
  rw [BitVec.getLsbD_ofNat, Nat.testBit_two_pow]
  simp [hi, eq_comm]

theorem bitCall_step (x : BitVec 8) (put : Bool) (old : BitVec 64) : (bitCall x put).step old = (old, if put then old ||| BitVec.ofNat 64 (2 ^ (x.toNat % 64)) else old &&& ~~~BitVec.ofNat 64 (2 ^ (x.toNat % 64))) := by
  cases put
  · simp [bitCall, Call.step]
  · simp [bitCall, Call.step]

theorem bitCall_cell (x : BitVec 8) (put : Bool) : (bitCall x put).cell = x.toNat / 64 := by cases put <;> rfl

theorem has_step {st : List (BitVec 64)} (hl : st.length = 4) (x : BitVec 8) (put : Bool) (y : Nat) (hy : y < 256) :
    has (st.set (bitCall x put).cell ((bitCall x put).step (st.getD (bitCall x put).cell 0)).2) y = if y = x.toNat then put else has st y := by
  have hx := x.isLt
  rw [bitCall_cell, bitCall_step]
  unfold has
  by_cases hc : x.toNat / 64 = y / 64
  · rw [hc, getD_set_self (by omega)]
    simp only
    by_cases he : y = x.toNat
    · subst he
      rw [if_pos rfl]
      cases put
      · simp only [Bool.false_eq_true, ↓reduceIte, BitVec.getLsbD_and, BitVec.getLsbD_not, twoPow_bit _ _ (Nat.mod_lt _ (by decide)) (Nat.mod_lt _ (by decide))]
        simp
      · simp only [↓reduceIte, BitVec.getLsbD_or, twoPow_bit _ _ (Nat.mod_lt _ (by decide)) (Nat.mod_lt _ (by decide))]
        simp
    · rw [if_neg he]
      have hm : ¬ y % 64 = x.toNat % 64 := by omega
      cases put
      · simp only [Bool.false_eq_true, ↓reduceIte, BitVec.getLsbD_and, BitVec.getLsbD_not, twoPow_bit _ _ (Nat.mod_lt _ (by decide)) (Nat.mod_lt _ (by decide)), hm]
        have : y % 64 < 64 := Nat.mod_lt _ (by decide)
        simp [this]
      · simp only [↓reduceIte, BitVec.getLsbD_or, twoPow_bit _ _ (Nat.mod_lt _ (by decide)) (Nat.mod_lt _ (by decide)), hm]
        simp
  · rw [getD_set_other hc, if_neg (by intro e; exact hc (by rw [e]))]
end Go.Proofs.Ytjjmjjbeecmmlae
