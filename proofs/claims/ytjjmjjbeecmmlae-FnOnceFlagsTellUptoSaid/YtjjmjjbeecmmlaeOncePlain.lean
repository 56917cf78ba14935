/-
  Plain: functions that run once, called in any order.
-/
import Derived.Test.YtjjmjjbeecmmlaePlain
namespace Go.Proofs.Ytjjmjjbeecmmlae
set_option linter.unusedVariables false
set_option linter.unusedSimpArgs false

theorem nodup_le {n : Nat} : ∀ {l : List Nat}, l.Nodup → (∀ x ∈ l, x < n) → l.length ≤ n := by
  induction n with
  | zero =>
    intro l _ h
    cases l with
    | nil => simp
    | cons x l => exact absurd (h x (by simp)) (by omega)
  | succ n ih =>
    intro l hn h
    have h1 : (l.erase n).length ≤ n := ih (hn.erase n) fun x hx => by
      have h2 := h x (List.mem_of_mem_erase hx)
      have h3 : x ≠ n := fun e => by subst e; exact (List.Nodup.not_mem_erase hn) hx
      omega
    by_cases hm : n ∈ l
    · rw [List.length_erase_of_mem hm] at h1
      have : 0 < l.length := List.length_pos_of_mem hm
      omega
    · rw [List.erase_of_not_mem hm] at h1
      omega

/-- One call of function i: those that have run, what each of them gave, and the state that they share. -/
def onceStep {σ ρ : Type} (act : Nat → σ → ρ × σ) (t : List Nat × List ρ × σ) (i : Nat) : List Nat × List ρ × σ :=
  if i ∈ t.1 then t else (t.1 ++ [i], t.2.1.set i (act i t.2.2).1, (act i t.2.2).2)

/-- Behind the first k calls. -/
def onceAt {σ ρ : Type} (act : Nat → σ → ρ × σ) (n : Nat) (d : ρ) (s : σ) (calls : List Nat) (k : Nat) : List Nat × List ρ × σ := (calls.take k).foldl (onceStep act) ([], List.replicate n d, s)

section
variable {σ ρ : Type} {act : Nat → σ → ρ × σ} {n : Nat} {d : ρ} {s : σ} {calls : List Nat} {k i : Nat} {t : List Nat × List ρ × σ}

theorem onceStep_old (h : i ∈ t.1) : onceStep act t i = t := by unfold onceStep; rw [if_pos h]
theorem onceStep_new (h : ¬ i ∈ t.1) : onceStep act t i = (t.1 ++ [i], t.2.1.set i (act i t.2.2).1, (act i t.2.2).2) := by unfold onceStep; rw [if_neg h]
theorem onceStep_mem : i ∈ (onceStep act t i).1 := by
  by_cases h : i ∈ t.1
  · rw [onceStep_old h]; exact h
  · rw [onceStep_new h]; simp
theorem onceStep_fst : (onceStep act t i).1 = if i ∈ t.1 then t.1 else t.1 ++ [i] := by
  by_cases h : i ∈ t.1
  · rw [onceStep_old h, if_pos h]
  · rw [onceStep_new h, if_neg h]
theorem onceStep_length : (onceStep act t i).2.1.length = t.2.1.length := by
  by_cases h : i ∈ t.1
  · rw [onceStep_old h]
  · rw [onceStep_new h]; simp
theorem onceStep_other {j : Nat} (h : ¬ j = i) : (onceStep act t i).2.1.getD j d = t.2.1.getD j d := by
  by_cases hm : i ∈ t.1
  · rw [onceStep_old hm]
  · rw [onceStep_new hm]
    simp only [List.getD_eq_getElem?_getD, List.getElem?_set]
    rw [if_neg (fun e => h e.symm)]

theorem onceAt_zero : onceAt act n d s calls 0 = ([], List.replicate n d, s) := rfl
theorem onceAt_succ (h : k < calls.length) (hi : calls[k] = i) : onceAt act n d s calls (k + 1) = onceStep act (onceAt act n d s calls k) i := by
  unfold onceAt
  rw [List.take_succ_eq_append_getElem h, List.foldl_append, hi]
  rfl
theorem onceAt_length : (onceAt act n d s calls k).2.1.length = n := by
  unfold onceAt
  have : ∀ (l : List Nat) (t : List Nat × List ρ × σ), (l.foldl (onceStep act) t).2.1.length = t.2.1.length := by
    intro l
    induction l with
    | nil => intro t; rfl
    | cons x l ih => intro t; rw [List.foldl_cons, ih, onceStep_length]
  rw [this]
  simp
theorem onceAt_ran (hc : ∀ i ∈ calls, i < n) : (onceAt act n d s calls k).1.Nodup ∧ ∀ i ∈ (onceAt act n d s calls k).1, i < n := by
  unfold onceAt
  have : ∀ (l : List Nat) (t : List Nat × List ρ × σ), (∀ i ∈ l, i < n) → t.1.Nodup → (∀ i ∈ t.1, i < n) → (l.foldl (onceStep act) t).1.Nodup ∧ ∀ i ∈ (l.foldl (onceStep act) t).1, i < n := by
    intro l
    induction l with
    | nil => intro t _ h1 h2; exact ⟨h1, h2⟩
    | cons x l ih =>
      intro t hl h1 h2
      rw [List.foldl_cons]
      refine ih _ (fun i hi => hl i (List.mem_cons_of_mem _ hi)) ?_ ?_
      · rw [onceStep_fst]
        split
        · exact h1
        · rename_i hx
          rw [List.nodup_append]
          refine ⟨h1, by simp, ?_⟩
          intro a ha b hb
          simp at hb
          subst hb
          exact fun e => hx (e ▸ ha)
      · intro i hi
        rw [onceStep_fst] at hi
        split at hi
        · exact h2 i hi
        · rcases List.mem_append.1 hi with hi | hi
          · exact h2 i hi
          · simp at hi
            subst hi
            exact hl i (by simp)
  exact this _ _ (fun i hi => hc i (List.mem_of_mem_take hi)) (by simp) (by simp)
theorem onceAt_short (hc : ∀ i ∈ calls, i < n) : (onceAt act n d s calls k).1.length ≤ n := by
  obtain ⟨h1, h2⟩ := onceAt_ran (act := act) (d := d) (s := s) (k := k) hc
  exact nodup_le h1 h2
theorem onceAt_all (h : calls.length ≤ k) : onceAt act n d s calls k = onceAt act n d s calls calls.length := by
  unfold onceAt
  rw [List.take_of_length_le h, List.take_of_length_le (Nat.le_refl _)]

/-- What the calls return. -/
def onceOuts (act : Nat → σ → ρ × σ) (n : Nat) (d : ρ) (s : σ) (calls : List Nat) : List ρ := calls.mapIdx fun k i => (onceAt act n d s calls (k + 1)).2.1.getD i d
@[simp] theorem onceOuts_length : (onceOuts act n d s calls).length = calls.length := by simp [onceOuts]
theorem onceOuts_get (h : k < (onceOuts act n d s calls).length) (hk : k < calls.length) (hi : calls[k] = i) : (onceOuts act n d s calls)[k] = (onceAt act n d s calls (k + 1)).2.1.getD i d := by
  subst hi
  simp [onceOuts]
end
end Go.Proofs.Ytjjmjjbeecmmlae
