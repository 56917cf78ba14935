/-
  Plain: functions made of one another that run once each: what they return, in which order they run, how often.
-/
import Derived.Test.YtjjmjjbeecmmladPlain
namespace Go.Proofs.Ytjjmjjbeecmmlad
set_option linter.unusedVariables false
set_option linter.unusedSimpArgs false

section
variable (ps : Nat → List Nat) (own : Nat → BitVec 64)

/-- The value of node i. -/
def valF : Nat → Nat → BitVec 64
  | 0, _ => 0
  | f + 1, i => (ps i).foldl (fun s p => s + valF f p) (own i)
def val (i : Nat) : BitVec 64 := valF ps own (i + 1) i

/-- A call of node i: those that have run, and how often each one. -/
def runF : Nat → Nat → List Nat × List (BitVec 64) → List Nat × List (BitVec 64)
  | 0, _, s => s
  | f + 1, i, s => if i ∈ s.1 then s else
      (((ps i).foldl (fun s p => runF f p s) (s.1, s.2.set i (s.2.getD i 0 + 1))).1 ++ [i], ((ps i).foldl (fun s p => runF f p s) (s.1, s.2.set i (s.2.getD i 0 + 1))).2)
end

theorem foldl_same {α β : Type} {f g : α → β → α} {l : List β} (h : ∀ a, ∀ b ∈ l, f a b = g a b) (a : α) : l.foldl f a = l.foldl g a := by
  induction l generalizing a with
  | nil => rfl
  | cons b l ih => rw [List.foldl_cons, List.foldl_cons, h a b (by simp), ih fun a b hb => h a b (List.mem_cons_of_mem _ hb)]

section
variable {ps : Nat → List Nat} {own : Nat → BitVec 64} (hps : ∀ i, ∀ p ∈ ps i, p < i)
include hps

theorem valF_fuel : ∀ (f i g : Nat), i < f → i < g → valF ps own f i = valF ps own g i := by
  intro f
  induction f with
  | zero => intro i g h; omega
  | succ f ih =>
    intro i g hi hg
    cases g with
    | zero => omega
    | succ g =>
      simp only [valF]
      refine foldl_same (fun s p hp => ?_) _
      have hpi := hps i p hp
      rw [ih p g (by omega) (by omega)]

theorem val_eq (i : Nat) : val ps own i = (ps i).foldl (fun s p => s + val ps own p) (own i) := by
  unfold val
  conv => lhs; unfold valF
  refine foldl_same (fun s p hp => ?_) _
  rw [valF_fuel hps i p (p + 1) (hps i p hp) (by omega)]

theorem runF_fuel : ∀ (f i g : Nat) (s : List Nat × List (BitVec 64)), i < f → i < g → runF ps f i s = runF ps g i s := by
  intro f
  induction f with
  | zero => intro i g s h; omega
  | succ f ih =>
    intro i g s hi hg
    cases g with
    | zero => omega
    | succ g =>
      have e : ∀ s, (ps i).foldl (fun s p => runF ps f p s) s = (ps i).foldl (fun s p => runF ps g p s) s := fun s => foldl_same (fun s p hp => ih p g s (by have := hps i p hp; omega) (by have := hps i p hp; omega)) s
      simp only [runF, e]

/-- A call adds no node beyond its own. -/
theorem runF_gt : ∀ (f i k : Nat) (s : List Nat × List (BitVec 64)), i < k → (k ∈ (runF ps f i s).1 ↔ k ∈ s.1) := by
  intro f
  induction f with
  | zero => intro i k s _; rfl
  | succ f ih =>
    intro i k s hk
    simp only [runF]
    split
    · rfl
    · have : ∀ (l : List Nat) (s : List Nat × List (BitVec 64)), (∀ p ∈ l, p < k) → (k ∈ (l.foldl (fun s p => runF ps f p s) s).1 ↔ k ∈ s.1) := by
        intro l
        induction l with
        | nil => intro s _; rfl
        | cons p l ihl =>
          intro s hl
          rw [List.foldl_cons, ihl _ fun q hq => hl q (List.mem_cons_of_mem _ hq), ih p k s (hl p (by simp))]
      simp only [List.mem_append, List.mem_singleton]
      rw [this _ _ fun p hp => Nat.lt_trans (hps i p hp) hk]
      simp
      omega

/-- What is kept: each node once, none beyond n, n counts. -/
def Fine (n : Nat) (s : List Nat × List (BitVec 64)) : Prop := s.1.Nodup ∧ (∀ x ∈ s.1, x < n) ∧ s.2.length = n

theorem runF_fine {n : Nat} : ∀ (f i : Nat) (s : List Nat × List (BitVec 64)), i < n → Fine n s → Fine n (runF ps f i s) := by
  intro f
  induction f with
  | zero => intro i s _ h; exact h
  | succ f ih =>
    intro i s hi h
    simp only [runF]
    split
    · exact h
    · rename_i hni
      have hfold : ∀ (l : List Nat) (s : List Nat × List (BitVec 64)), (∀ p ∈ l, p < i) → Fine n s → ¬ i ∈ s.1 → Fine n (l.foldl (fun s p => runF ps f p s) s) ∧ ¬ i ∈ (l.foldl (fun s p => runF ps f p s) s).1 := by
        intro l
        induction l with
        | nil => intro s _ h hn; exact ⟨h, hn⟩
        | cons p l ihl =>
          intro s hl h hn
          rw [List.foldl_cons]
          exact ihl _ (fun q hq => hl q (List.mem_cons_of_mem _ hq)) (ih p s (by have := hl p (by simp); omega) h) (by rw [runF_gt hps f p i s (hl p (by simp))]; exact hn)
      obtain ⟨⟨h1, h2, h3⟩, h4⟩ := hfold (ps i) (s.1, s.2.set i (s.2.getD i 0 + 1)) (hps i) ⟨h.1, h.2.1, by simpa using h.2.2⟩ hni
      refine ⟨?_, ?_, h3⟩
      · rw [List.nodup_append]
        exact ⟨h1, by simp, by simp; exact fun a ha e => h4 (e ▸ ha)⟩
      · intro x hx
        rcases List.mem_append.1 hx with hx | hx
        · exact h2 x hx
        · simp at hx; omega
end

theorem nodup_le {n : Nat} : ∀ {l : List Nat}, l.Nodup → (∀ x ∈ l, x < n) → l.length ≤ n := by
  induction n with
  | zero =>
    intro l _ h
    cases l with
    | nil => simp
    | cons x l => exact absurd (h x (by simp)) (by omega)
  | succ n ih =>
    intro l hn h
    have h1 : (l.erase n).length ≤ n := ih (hn.erase n) fun x hx => by
      have h2 := h x (List.mem_of_mem_erase hx)
      have h3 : x ≠ n := fun e => by subst e; exact (List.Nodup.not_mem_erase hn) hx
      omega
    by_cases hm : n ∈ l
    · rw [List.length_erase_of_mem hm] at h1
      have : 0 < l.length := List.length_pos_of_mem hm
      omega
    · rw [List.erase_of_not_mem hm] at h1
      omega
end Go.Proofs.Ytjjmjjbeecmmlad
