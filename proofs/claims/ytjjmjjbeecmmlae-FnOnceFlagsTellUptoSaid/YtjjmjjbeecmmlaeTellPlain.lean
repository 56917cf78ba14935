/-
  Plain: one bit for each action.
-/
import Derived.Test.YtjjmjjbeecmmlaeOFns
import Derived.Test.YtjjmjjbeecmmlaeFlags
import Derived.Test.YtjjmjjbeecmmlaeBitsPlain
namespace Go.Proofs.Ytjjmjjbeecmmlae
set_option linter.unusedVariables false
set_option linter.unusedSimpArgs false

theorem i64_and (y : Int) : ∃ u : Nat, u ≤ 65535 ∧ bits .and .i64 y 65535 = (u : Int) := by
  have h : (BitVec.ofInt 64 y &&& 65535#64).toNat ≤ 65535 := by rw [BitVec.toNat_and]; exact Nat.and_le_right
  refine ⟨_, h, ?_⟩
  show IntKind.i64.wrap ((BitVec.ofInt 64 y &&& BitVec.ofInt 64 65535).toNat : Int) = _
  rw [show BitVec.ofInt 64 65535 = 65535#64 from rfl]
  generalize (BitVec.ofInt 64 y &&& 65535#64).toNat = v at h
  rw [IntKind.wrap_i64]
  omega

def tellMask (i : Nat) : BitVec 64 := BitVec.ofNat 64 (2 ^ (5 * i))
def tellMasks (n : Nat) : List (BitVec 64) := (List.range n).map tellMask
theorem tellMasks_get {n i : Nat} (h : i < n) : (tellMasks n).getD i 0 = tellMask i := by simp [tellMasks, h]
theorem tell_bit {i k : Nat} (hi : i < 12) (hk : k < 12) : (tellMask i).getLsbD (5 * k) = decide (k = i) := by
  unfold tellMask
  rw [twoPow_bit _ _ (by omega) (by omega)]
  apply decide_eq_decide.2
  omega
theorem tell_and (x : BitVec 64) {k : Nat} (hk : k < 12) : (((x &&& tellMask k).toNat : Int) != 0) = x.getLsbD (5 * k) := by
  have h1 : ∀ i, i < 64 → (x &&& tellMask k).getLsbD i = (x.getLsbD i && decide (i = 5 * k)) := by
    intro i hi
    rw [BitVec.getLsbD_and]
    unfold tellMask
    rw [twoPow_bit _ _ (by omega) hi]
  cases hb : x.getLsbD (5 * k) with
  | true =>
    have h2 := h1 (5 * k) (by omega)
    rw [hb] at h2
    simp only [bne_iff_ne, ne_eq]
    intro h
    have h3 : x &&& tellMask k = 0 := BitVec.eq_of_toNat_eq (by simpa using h)
    rw [h3] at h2
    simp at h2
  | false =>
    have h3 : x &&& tellMask k = 0 := by
      apply BitVec.eq_of_getLsbD_eq
      intro i hi
      rw [h1 i hi]
      by_cases e : i = 5 * k
      · rw [e, hb]; simp
      · simp [e]
    rw [h3]
    rfl

/-- What action i has found of action k's bit. -/
def fb (t : List Nat × List (BitVec 64) × BitVec 64) (i k : Nat) : Bool := (t.2.1.getD i 0).getLsbD (5 * k)
structure Tells (n : Nat) (t : List Nat × List (BitVec 64) × BitVec 64) : Prop where
  word : ∀ k, k < n → t.2.2.getLsbD (5 * k) = decide (k ∈ t.1)
  none : ∀ i k, i < n → k < n → ¬ i ∈ t.1 → fb t i k = false
  ran : ∀ i k, i < n → k < n → ¬ k ∈ t.1 → fb t i k = false
  self : ∀ i, i < n → fb t i i = false
  just : ∀ i k, i < n → k < n → i ∈ t.1 → k ∈ t.1 → ¬ i = k → fb t i k = !fb t k i

theorem tells_zero (n : Nat) : Tells n ([], List.replicate n 0, 0) := by
  have h : ∀ i k, fb ([], List.replicate n 0, 0) i k = false := by
    intro i k
    unfold fb
    have : (List.replicate n (0 : BitVec 64)).getD i 0 = 0 := by
      simp only [List.getD_eq_getElem?_getD, List.getElem?_replicate]
      split <;> rfl
    simp only [this]
    simp
  exact ⟨fun k _ => by simp, fun i k _ _ _ => h i k, fun i k _ _ _ => h i k, fun i _ => h i i, fun i k _ _ hi => by simp at hi⟩

theorem tells_step {n : Nat} (hn : n ≤ 12) {t : List Nat × List (BitVec 64) × BitVec 64} (hl : t.2.1.length = n) {x : Nat} (hx : x < n) (h : Tells n t) : Tells n (onceStep (flagsAct (tellMasks n)) t x) := by
  by_cases hm : x ∈ t.1
  · rw [onceStep_old hm]; exact h
  rw [onceStep_new hm]
  simp only [flagsAct, tellMasks_get hx]
  have hf : ∀ i k, fb (t.1 ++ [x], t.2.1.set x t.2.2, t.2.2 ||| tellMask x) i k = if i = x then t.2.2.getLsbD (5 * k) else fb t i k := by
    intro i k
    unfold fb
    by_cases e : i = x
    · subst e
      rw [if_pos rfl]
      simp only [List.getD_eq_getElem?_getD]
      rw [List.getElem?_set_self (by omega)]
      rfl
    · rw [if_neg e]
      simp only [List.getD_eq_getElem?_getD]
      rw [List.getElem?_set_ne (fun e' => e e'.symm)]
  have hmem : ∀ i, i ∈ t.1 ++ [x] ↔ i ∈ t.1 ∨ i = x := by intro i; simp
  refine ⟨?_, ?_, ?_, ?_, ?_⟩
  · intro k hk
    show (t.2.2 ||| tellMask x).getLsbD (5 * k) = _
    rw [BitVec.getLsbD_or, h.word k hk, tell_bit (by omega) (by omega), ← Bool.decide_or]
    apply decide_eq_decide.2
    exact (hmem k).symm
  · intro i k hi hk hni
    have hni' : ¬ (i ∈ t.1 ∨ i = x) := fun hh => hni ((hmem i).2 hh)
    rw [hf, if_neg (fun e => hni' (.inr e))]
    exact h.none i k hi hk (fun e => hni' (.inl e))
  · intro i k hi hk hnk
    have hnk' : ¬ (k ∈ t.1 ∨ k = x) := fun hh => hnk ((hmem k).2 hh)
    rw [hf]
    split
    · rw [h.word k hk]; simp only [decide_eq_false_iff_not]; exact fun e => hnk' (.inl e)
    · exact h.ran i k hi hk (fun e => hnk' (.inl e))
  · intro i hi
    rw [hf]
    split
    · rename_i e
      rw [h.word i hi]
      simp only [decide_eq_false_iff_not]
      rw [e]
      exact hm
    · exact h.self i hi
  · intro i k hi hk him hkm hik
    have him' := (hmem i).1 him
    have hkm' := (hmem k).1 hkm
    rw [hf, hf]
    by_cases e1 : i = x
    · have e2 : ¬ k = x := fun e => hik (e1.trans e.symm)
      rw [if_pos e1, if_neg e2, h.word k hk]
      have hk1 : k ∈ t.1 := hkm'.resolve_right e2
      rw [e1, h.ran k x hk hx hm]
      simp [hk1]
    · rw [if_neg e1]
      have hi1 : i ∈ t.1 := him'.resolve_right e1
      by_cases e2 : k = x
      · rw [if_pos e2, h.word i hi, e2, h.ran i x hi hx hm]
        simp [hi1]
      · rw [if_neg e2]
        exact h.just i k hi hk hi1 (hkm'.resolve_right e2) hik

theorem tells_all {n : Nat} (hn : n ≤ 12) {calls : List Nat} (hc : ∀ i ∈ calls, i < n) : ∀ k, k ≤ calls.length → Tells n (onceAt (flagsAct (tellMasks n)) n 0 0 calls k) := by
  intro k
  induction k with
  | zero => intro _; exact tells_zero n
  | succ k ih =>
    intro hk
    rw [onceAt_succ (by omega) rfl]
    exact tells_step hn onceAt_length (hc _ (List.getElem_mem _)) (ih (by omega))

theorem onceAt_mem {σ ρ : Type} {act : Nat → σ → ρ × σ} {n : Nat} {d : ρ} {s : σ} {calls : List Nat} {x : Nat} : x ∈ (onceAt act n d s calls calls.length).1 ↔ x ∈ calls := by
  unfold onceAt
  rw [List.take_of_length_le (Nat.le_refl _)]
  have : ∀ (l : List Nat) (t : List Nat × List ρ × σ), x ∈ (l.foldl (onceStep act) t).1 ↔ x ∈ t.1 ∨ x ∈ l := by
    intro l
    induction l with
    | nil => intro t; simp
    | cons y l ih =>
      intro t
      rw [List.foldl_cons, ih, onceStep_fst]
      split
      · rename_i h
        constructor
        · rintro (h1 | h1)
          · exact .inl h1
          · exact .inr (List.mem_cons_of_mem _ h1)
        · rintro (h1 | h1)
          · exact .inl h1
          · rcases List.mem_cons.1 h1 with h2 | h2
            · exact .inl (h2 ▸ h)
            · exact .inr h2
      · simp only [List.mem_append, List.mem_cons, List.not_mem_nil, or_false]
        constructor
        · rintro ((h1 | h1) | h1)
          · exact .inl h1
          · exact .inr (.inl h1)
          · exact .inr (.inr h1)
        · rintro (h1 | h1 | h1)
          · exact .inl (.inl h1)
          · exact .inl (.inr h1)
          · exact .inr h1
  rw [this]
  simp
end Go.Proofs.Ytjjmjjbeecmmlae
