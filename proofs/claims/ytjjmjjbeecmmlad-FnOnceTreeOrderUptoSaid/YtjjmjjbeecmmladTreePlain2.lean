/-
  Plain: more about functions made of one another that run once each: what is called again, cut, turned.
-/
import Derived.Test.YtjjmjjbeecmmladTreePlain
namespace Go.Proofs.Ytjjmjjbeecmmlad
set_option linter.unusedVariables false
set_option linter.unusedSimpArgs false

/-- All calls, from the beginning. -/
def allRun (ps : Nat → List Nat) (n : Nat) (calls : List Nat) : List Nat × List (BitVec 64) := calls.foldl (fun s i => runF ps n i s) ([], List.replicate n 0)

section
variable {ps : Nat → List Nat}

theorem fold_ext {f : Nat → List Nat × List (BitVec 64) → List Nat × List (BitVec 64)} (hf : ∀ i s, ∃ t, (f i s).1 = s.1 ++ t) : ∀ (l : List Nat) (s : List Nat × List (BitVec 64)), ∃ t, (l.foldl (fun s i => f i s) s).1 = s.1 ++ t := by
  intro l
  induction l with
  | nil => intro s; exact ⟨[], by simp⟩
  | cons p l ih =>
    intro s
    obtain ⟨t1, h1⟩ := hf p s
    obtain ⟨t2, h2⟩ := ih (f p s)
    exact ⟨t1 ++ t2, by rw [List.foldl_cons, h2, h1, List.append_assoc]⟩

/-- A call adds at the end. -/
theorem runF_ext : ∀ (f i : Nat) (s : List Nat × List (BitVec 64)), ∃ t, (runF ps f i s).1 = s.1 ++ t := by
  intro f
  induction f with
  | zero => intro i s; exact ⟨[], by simp [runF]⟩
  | succ f ih =>
    intro i s
    simp only [runF]
    split
    · exact ⟨[], by simp⟩
    · obtain ⟨t, ht⟩ := fold_ext ih (ps i) (s.1, s.2.set i (s.2.getD i 0 + 1))
      exact ⟨t ++ [i], by simp only [ht, List.append_assoc]⟩
theorem runF_keeps {f i x : Nat} {s : List Nat × List (BitVec 64)} (h : x ∈ s.1) : x ∈ (runF ps f i s).1 := by
  obtain ⟨t, ht⟩ := runF_ext (ps := ps) f i s
  rw [ht]
  exact List.mem_append_left _ h
theorem fold_keeps {f x : Nat} {l : List Nat} {s : List Nat × List (BitVec 64)} (h : x ∈ s.1) : x ∈ (l.foldl (fun s i => runF ps f i s) s).1 := by
  obtain ⟨t, ht⟩ := fold_ext (runF_ext (ps := ps) f) l s
  rw [ht]
  exact List.mem_append_left _ h
theorem runF_self {f i : Nat} {s : List Nat × List (BitVec 64)} (h : 0 < f) : i ∈ (runF ps f i s).1 := by
  cases f with
  | zero => omega
  | succ f =>
    simp only [runF]
    split
    · assumption
    · simp
theorem fold_has {f : Nat} (hf : 0 < f) : ∀ {l : List Nat} {s : List Nat × List (BitVec 64)}, ∀ i ∈ l, i ∈ (l.foldl (fun s i => runF ps f i s) s).1 := by
  intro l
  induction l with
  | nil => intro s i h; simp at h
  | cons p l ih =>
    intro s i h
    rw [List.foldl_cons]
    rcases List.mem_cons.1 h with rfl | h
    · exact fold_keeps (runF_self hf)
    · exact ih i h
theorem fold_noop {f : Nat} (hf : 0 < f) : ∀ {l : List Nat} {s : List Nat × List (BitVec 64)}, (∀ i ∈ l, i ∈ s.1) → l.foldl (fun s i => runF ps f i s) s = s := by
  intro l
  induction l with
  | nil => intro s _; rfl
  | cons p l ih =>
    intro s h
    have e : runF ps f p s = s := by
      cases f with
      | zero => omega
      | succ f => simp only [runF]; rw [if_pos (h p (by simp))]
    rw [List.foldl_cons, e, ih fun i hi => h i (List.mem_cons_of_mem _ hi)]

theorem allRun_again {n : Nat} {calls : List Nat} (hc : ∀ i ∈ calls, i < n) : allRun ps n (calls ++ calls) = allRun ps n calls := by
  unfold allRun
  rw [List.foldl_append]
  cases calls with
  | nil => rfl
  | cons i l =>
    have hn : 0 < n := by have := hc i (by simp); omega
    exact fold_noop hn fun j hj => fold_has hn j hj

theorem allRun_cut {n j : Nat} {calls : List Nat} : ∃ t, (allRun ps n calls).1 = (allRun ps n (calls.take j)).1 ++ t := by
  unfold allRun
  have e : calls = calls.take j ++ calls.drop j := (List.take_append_drop j calls).symm
  obtain ⟨t, ht⟩ := fold_ext (runF_ext (ps := ps) n) (calls.drop j) ((calls.take j).foldl (fun s i => runF ps n i s) ([], List.replicate n 0))
  refine ⟨t, ?_⟩
  rw [← ht, ← List.foldl_append, ← e]

/-- With each node those that it calls. -/
def Closed (ps : Nat → List Nat) (S : List Nat) : Prop := ∀ x ∈ S, ∀ p ∈ ps x, p ∈ S

theorem runF_least : ∀ (f i : Nat) (s : List Nat × List (BitVec 64)) (T : List Nat), Closed ps T → i ∈ T → (∀ x ∈ s.1, x ∈ T) → ∀ x ∈ (runF ps f i s).1, x ∈ T := by
  intro f
  induction f with
  | zero => intro i s T _ _ h; exact h
  | succ f ih =>
    intro i s T hT hi h
    have hfold : ∀ (l : List Nat) (s : List Nat × List (BitVec 64)), (∀ p ∈ l, p ∈ T) → (∀ x ∈ s.1, x ∈ T) → ∀ x ∈ (l.foldl (fun s p => runF ps f p s) s).1, x ∈ T := by
      intro l
      induction l with
      | nil => intro s _ h; exact h
      | cons p l ihl =>
        intro s hl h
        rw [List.foldl_cons]
        exact ihl _ (fun q hq => hl q (List.mem_cons_of_mem _ hq)) (ih p s T hT (hl p (by simp)) h)
    simp only [runF]
    split
    · exact h
    · intro x hx
      rcases List.mem_append.1 hx with hx | hx
      · exact hfold (ps i) (s.1, s.2.set i (s.2.getD i 0 + 1)) (hT i hi) h x hx
      · rw [List.mem_singleton] at hx
        rw [hx]
        exact hi
theorem fold_least {f : Nat} {T : List Nat} (hT : Closed ps T) : ∀ (l : List Nat) (s : List Nat × List (BitVec 64)), (∀ p ∈ l, p ∈ T) → (∀ x ∈ s.1, x ∈ T) → ∀ x ∈ (l.foldl (fun s p => runF ps f p s) s).1, x ∈ T := by
  intro l
  induction l with
  | nil => intro s _ h; exact h
  | cons p l ihl =>
    intro s hl h
    rw [List.foldl_cons]
    exact ihl _ (fun q hq => hl q (List.mem_cons_of_mem _ hq)) (runF_least f p s T hT (hl p (by simp)) h)

variable (hps : ∀ i, ∀ p ∈ ps i, p < i)
include hps

theorem runF_closed : ∀ (f i : Nat) (s : List Nat × List (BitVec 64)), i < f → Closed ps s.1 → Closed ps (runF ps f i s).1 := by
  intro f
  induction f with
  | zero => intro i s h; omega
  | succ f ih =>
    intro i s hi h
    have hfold : ∀ (l : List Nat) (s : List Nat × List (BitVec 64)), (∀ p ∈ l, p < f) → Closed ps s.1 → Closed ps (l.foldl (fun s p => runF ps f p s) s).1 := by
      intro l
      induction l with
      | nil => intro s _ h; exact h
      | cons p l ihl =>
        intro s hl h
        rw [List.foldl_cons]
        exact ihl _ (fun q hq => hl q (List.mem_cons_of_mem _ hq)) (ih p s (hl p (by simp)) h)
    simp only [runF]
    split
    · exact h
    · have hf : ∀ p ∈ ps i, p < f := fun p hp => by have := hps i p hp; omega
      have hc := hfold (ps i) (s.1, s.2.set i (s.2.getD i 0 + 1)) hf h
      intro x hx p hp
      rcases List.mem_append.1 hx with hx | hx
      · exact List.mem_append_left _ (hc x hx p hp)
      · rw [List.mem_singleton] at hx
        subst hx
        exact List.mem_append_left _ (fold_has (by have := hf p hp; omega) p hp)
theorem fold_closed {n : Nat} : ∀ (l : List Nat) (s : List Nat × List (BitVec 64)), (∀ p ∈ l, p < n) → Closed ps s.1 → Closed ps (l.foldl (fun s p => runF ps n p s) s).1 := by
  intro l
  induction l with
  | nil => intro s _ h; exact h
  | cons p l ihl =>
    intro s hl h
    rw [List.foldl_cons]
    exact ihl _ (fun q hq => hl q (List.mem_cons_of_mem _ hq)) (runF_closed hps n p s (hl p (by simp)) h)
theorem allRun_closed {n : Nat} {calls : List Nat} (hc : ∀ i ∈ calls, i < n) : Closed ps (allRun ps n calls).1 := fold_closed hps calls _ hc (by intro x hx; simp at hx)

/-- What has run depends on which nodes are called alone. -/
theorem allRun_sub {n : Nat} {calls calls' : List Nat} (hc : ∀ i ∈ calls, i < n) (h : ∀ i ∈ calls', i ∈ calls) : ∀ x ∈ (allRun ps n calls').1, x ∈ (allRun ps n calls).1 := by
  intro x hx
  cases calls' with
  | nil => simp [allRun] at hx
  | cons i l =>
    have hn : 0 < n := by have := hc i (h i (by simp)); omega
    exact fold_least (allRun_closed hps hc) (i :: l) _ (fun p hp => fold_has hn p (h p hp)) (by simp) x hx

theorem runF_count : ∀ (f i x : Nat) (s : List Nat × List (BitVec 64)), x < s.2.length → (runF ps f i s).2.length = s.2.length ∧ (runF ps f i s).2.getD x 0 = s.2.getD x 0 + (if x ∈ (runF ps f i s).1 ∧ ¬ x ∈ s.1 then 1 else 0) := by
  intro f
  induction f with
  | zero =>
    intro i x s hx
    have h0 : ¬ (x ∈ (runF ps 0 i s).1 ∧ ¬ x ∈ s.1) := fun h => h.2 h.1
    rw [if_neg h0]
    simp [runF]
  | succ f ih =>
    intro i x s hx
    have hfold : ∀ (l : List Nat) (s : List Nat × List (BitVec 64)), x < s.2.length → (l.foldl (fun s p => runF ps f p s) s).2.length = s.2.length ∧ (l.foldl (fun s p => runF ps f p s) s).2.getD x 0 = s.2.getD x 0 + (if x ∈ (l.foldl (fun s p => runF ps f p s) s).1 ∧ ¬ x ∈ s.1 then 1 else 0) := by
      intro l
      induction l with
      | nil => intro s _; refine ⟨rfl, ?_⟩; rw [List.foldl_nil, if_neg (by simp)]; simp
      | cons p l ihl =>
        intro s hx
        obtain ⟨l1, h1⟩ := ih p x s hx
        obtain ⟨l2, h2⟩ := ihl (runF ps f p s) (by omega)
        rw [List.foldl_cons, l2, l1, h2, h1]
        refine ⟨rfl, ?_⟩
        by_cases m0 : x ∈ s.1
        · have m1 : x ∈ (runF ps f p s).1 := runF_keeps m0
          simp [m0, m1]
        · by_cases m1 : x ∈ (runF ps f p s).1
          · have m2 : x ∈ (l.foldl (fun s p => runF ps f p s) (runF ps f p s)).1 := fold_keeps m1
            simp [m0, m1, m2]
          · simp [m0, m1]
    by_cases hi : i ∈ s.1
    · have e : runF ps (f + 1) i s = s := by simp only [runF]; rw [if_pos hi]
      rw [e]
      refine ⟨rfl, ?_⟩
      rw [if_neg (by simp)]
      simp
    · have e : runF ps (f + 1) i s = (((ps i).foldl (fun s p => runF ps f p s) (s.1, s.2.set i (s.2.getD i 0 + 1))).1 ++ [i], ((ps i).foldl (fun s p => runF ps f p s) (s.1, s.2.set i (s.2.getD i 0 + 1))).2) := by simp only [runF]; rw [if_neg hi]
      have hni : ¬ i ∈ ((ps i).foldl (fun s p => runF ps f p s) (s.1, s.2.set i (s.2.getD i 0 + 1))).1 := by
        have : ∀ (l : List Nat) (s : List Nat × List (BitVec 64)), (∀ p ∈ l, p < i) → ¬ i ∈ s.1 → ¬ i ∈ (l.foldl (fun s p => runF ps f p s) s).1 := by
          intro l
          induction l with
          | nil => intro s _ h; exact h
          | cons p l ihl =>
            intro s hl h
            rw [List.foldl_cons]
            exact ihl _ (fun q hq => hl q (List.mem_cons_of_mem _ hq)) (by rw [runF_gt hps f p i s (hl p (by simp))]; exact h)
        exact this _ _ (hps i) hi
      obtain ⟨l1, h1⟩ := hfold (ps i) (s.1, s.2.set i (s.2.getD i 0 + 1)) (by simpa using hx)
      rw [e]
      refine ⟨by simpa using l1, ?_⟩
      rw [h1]
      by_cases hxi : x = i
      · subst hxi
        rw [if_neg (by exact fun h => hni h.1), if_pos ⟨by simp, hi⟩]
        simp [hx]
      · have e2 : (s.2.set i (s.2.getD i 0 + 1)).getD x 0 = s.2.getD x 0 := by
          simp only [List.getD_eq_getElem?_getD, List.getElem?_set]
          rw [if_neg (by omega)]
        simp only [e2, List.mem_append, List.mem_singleton, hxi, or_false]

theorem allRun_count {n : Nat} {calls : List Nat} {x : Nat} (hx : x < n) : (allRun ps n calls).2.getD x 0 = if x ∈ (allRun ps n calls).1 then 1 else 0 := by
  have : ∀ (l : List Nat) (s : List Nat × List (BitVec 64)), x < s.2.length → s.2.getD x 0 = (if x ∈ s.1 then 1 else 0) → (l.foldl (fun s i => runF ps n i s) s).2.getD x 0 = if x ∈ (l.foldl (fun s i => runF ps n i s) s).1 then 1 else 0 := by
    intro l
    induction l with
    | nil => intro s _ h; exact h
    | cons p l ihl =>
      intro s hx h
      rw [List.foldl_cons]
      obtain ⟨l1, h1⟩ := runF_count hps n p x s hx
      refine ihl _ (by omega) ?_
      rw [h1, h]
      by_cases m0 : x ∈ s.1
      · have m1 : x ∈ (runF ps n p s).1 := runF_keeps m0
        simp [m0, m1]
      · simp [m0]
  exact this calls _ (by simpa using hx) (by simp [hx])

theorem allRun_fine {n : Nat} {calls : List Nat} (hc : ∀ i ∈ calls, i < n) : Fine n (allRun ps n calls) := by
  have : ∀ (l : List Nat) (s : List Nat × List (BitVec 64)), (∀ i ∈ l, i < n) → Fine n s → Fine n (l.foldl (fun s i => runF ps n i s) s) := by
    intro l
    induction l with
    | nil => intro s _ h; exact h
    | cons p l ihl =>
      intro s hl h
      rw [List.foldl_cons]
      exact ihl _ (fun q hq => hl q (List.mem_cons_of_mem _ hq)) (runF_fine hps n p s (hl p (by simp)) h)
  exact this calls _ hc ⟨by simp, by simp, by simp⟩
end

theorem nodup_sub : ∀ {a b : List Nat}, a.Nodup → (∀ x ∈ a, x ∈ b) → a.length ≤ b.length := by
  intro a
  induction a with
  | nil => intro b _ _; simp
  | cons x a ih =>
    intro b hn h
    rw [List.nodup_cons] at hn
    have h1 := ih (b := b.erase x) hn.2 fun y hy => (List.mem_erase_of_ne (by intro e; subst e; exact hn.1 hy)).2 (h y (List.mem_cons_of_mem _ hy))
    have hm : x ∈ b := h x (by simp)
    rw [List.length_erase_of_mem hm] at h1
    have : 0 < b.length := List.length_pos_of_mem hm
    simp only [List.length_cons]
    omega
theorem nodup_length {a b : List Nat} (ha : a.Nodup) (hb : b.Nodup) (h1 : ∀ x ∈ a, x ∈ b) (h2 : ∀ x ∈ b, x ∈ a) : a.length = b.length :=
  Nat.le_antisymm (nodup_sub ha h1) (nodup_sub hb h2)
end Go.Proofs.Ytjjmjjbeecmmlad
