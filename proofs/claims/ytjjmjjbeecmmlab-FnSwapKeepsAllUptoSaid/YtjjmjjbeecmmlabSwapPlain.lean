/-
  Plain: swaps keep all numbers; sorted lists that are permutations of each other are equal; tickets, locks and chains.
-/
import Derived.Test.YtjjmjjbeecmmlabApartPlain
namespace Go.Proofs.Ytjjmjjbeecmmlab
set_option linter.unusedVariables false
set_option linter.unusedSimpArgs false

theorem set_perm (l : List (BitVec 64)) (i : Nat) (x : BitVec 64) (h : i < l.length) : (l.getD i 0 :: l.set i x).Perm (x :: l) := by
  induction l generalizing i with
  | nil => simp at h
  | cons y l ih =>
    cases i with
    | zero => simpa using List.Perm.swap x y l
    | succ i =>
      have := ih i (by simpa using h)
      simp only [List.getD_cons_succ, List.set_cons_succ]
      exact ((List.Perm.swap _ _ _).trans (this.cons y)).trans (List.Perm.swap _ _ _)

/-- Behind swaps: what came out and what is there are what was there and what was put in. -/
theorem swaps_keep {st : List (BitVec 64)} {sc : List (Call 64)} (h3 : ∀ d ∈ sc, d.kind = 3#8) (hc : ∀ d ∈ sc, d.cell < st.length) : ((runL st sc).1 ++ (runL st sc).2).Perm (st ++ sc.map (·.a)) := by
  induction sc generalizing st with
  | nil => simp [runL]
  | cons d sc ih =>
    have hd := hc d (by simp)
    have hk := h3 d (by simp)
    have ih' := ih (st := st.set d.cell d.a) (fun x hx => h3 x (List.mem_cons_of_mem _ hx)) (fun x hx => by simpa using hc x (List.mem_cons_of_mem _ hx))
    have e : runL st (d :: sc) = (st.getD d.cell 0 :: (runL (st.set d.cell d.a) sc).1, (runL (st.set d.cell d.a) sc).2) := by simp [runL, Call.step3 d _ hk]
    rw [e]
    simp only [List.cons_append, List.map_cons]
    refine (ih'.cons _).trans ?_
    rw [← List.cons_append]
    refine ((set_perm st d.cell d.a hd).append_right _).trans ?_
    exact (List.perm_middle (l₁ := st) (a := d.a) (l₂ := sc.map (·.a))).symm

theorem sorted_unique {l l' : List (BitVec 64)} (h : l.Perm l') (h1 : l.Pairwise (fun a b => a.toNat ≤ b.toNat)) (h2 : l'.Pairwise (fun a b => a.toNat ≤ b.toNat)) : l = l' := by
  induction l generalizing l' with
  | nil => exact (List.nil_perm.1 h).symm
  | cons x l ih =>
    cases l' with
    | nil => exact absurd (List.perm_nil.1 h) (by simp)
    | cons y l' =>
      rw [List.pairwise_cons] at h1 h2
      have hxy : x = y := by
        have hx : x ∈ y :: l' := h.subset (by simp)
        have hy : y ∈ x :: l := h.symm.subset (by simp)
        rcases List.mem_cons.1 hx with e | hx
        · exact e
        · rcases List.mem_cons.1 hy with e | hy
          · exact e.symm
          · have a1 := h2.1 x hx
            have a2 := h1.1 y hy
            exact BitVec.eq_of_toNat_eq (by omega)
      subst hxy
      rw [ih (List.Perm.cons_inv h) h1.2 h2.2]

/-! Tickets -/
def ticket : Call 64 := ⟨2#8, 0, 1, 0⟩
theorem tickets_run (f : BitVec 64) (m : Nat) : runL [f] (List.replicate m ticket) = ((List.range m).map (fun k => f + BitVec.ofNat 64 (k + 1)), [f + BitVec.ofNat 64 m]) := by
  induction m with
  | zero => simp [runL]
  | succ m ih =>
    rw [List.replicate_succ', runL_append, ih, List.range_succ]
    have e : f + BitVec.ofNat 64 m + 1#64 = f + BitVec.ofNat 64 (m + 1) := by
      rw [BitVec.add_assoc]
      congr 1
      apply BitVec.eq_of_toNat_eq
      simp
    simp [runL, ticket, Call.step, e]

/-! Chains -/
def links : List (BitVec 64) → List (Call 64)
  | x :: y :: l => ⟨4#8, 0, x, y⟩ :: links (y :: l)
  | _ => []

theorem links_length : ∀ (l : List (BitVec 64)), (links l).length = l.length - 1
  | [] => rfl
  | [_] => rfl
  | x :: y :: l => by simp only [links, List.length_cons]; rw [links_length (y :: l)]; simp

theorem links_get : ∀ (l : List (BitVec 64)) (i : Nat) (h : i + 1 < l.length), (links l)[i]'(by rw [links_length]; omega) = ⟨4#8, 0, l[i], l[i + 1]⟩
  | [], i, h => by simp at h
  | [_], i, h => by simp at h
  | x :: y :: l, 0, h => rfl
  | x :: y :: l, i + 1, h => by
    simp only [links, List.getElem_cons_succ]
    exact links_get (y :: l) i (by simpa using h)

theorem links_run : ∀ (x : BitVec 64) (l : List (BitVec 64)), runL [x] (links (x :: l)) = (List.replicate l.length 1, [(x :: l).getLast (by simp)])
  | x, [] => by simp [links, runL]
  | x, y :: l => by
    have ih := links_run y l
    have hs : (⟨4#8, 0, x, y⟩ : Call 64).step x = (1, y) := by rw [Call.step4 _ _ rfl, if_pos rfl]
    simp only [links, runL, List.getD_cons_zero, hs, List.set_cons_zero, ih]
    simp [List.replicate_succ]

/-- A compare with what is not there. -/
theorem links_idle (x : BitVec 64) (sc : List (Call 64)) (h : ∀ d ∈ sc, d.kind = 4#8 ∧ d.cell = 0 ∧ ¬ x = d.a) : runL [x] sc = (List.replicate sc.length 0, [x]) := by
  induction sc with
  | nil => rfl
  | cons d sc ih =>
    obtain ⟨hk, hc, hx⟩ := h d (by simp)
    have ih' := ih fun e he => h e (List.mem_cons_of_mem _ he)
    have hs : d.step x = (0, x) := by rw [Call.step4 _ _ hk, if_neg hx]
    simp only [runL, hc, List.getD_cons_zero, hs, List.set_cons_zero, ih', List.length_cons, List.replicate_succ]

theorem links_mem : ∀ (l : List (BitVec 64)), ∀ d ∈ links l, d.kind = 4#8 ∧ d.cell = 0 ∧ d.a ∈ l
  | [], d, h => by simp [links] at h
  | [_], d, h => by simp [links] at h
  | x :: y :: l, d, h => by
    simp only [links, List.mem_cons] at h
    rcases h with rfl | h
    · simp
    · obtain ⟨h1, h2, h3⟩ := links_mem (y :: l) d h
      exact ⟨h1, h2, List.mem_cons_of_mem _ h3⟩

theorem links_back (x y : BitVec 64) (l : List (BitVec 64)) (hn : (x :: y :: l).Nodup) : runL [x] (links (x :: y :: l)).reverse = (List.replicate l.length 0 ++ [1], [y]) := by
  have hx : ∀ d ∈ (links (y :: l)).reverse, d.kind = 4#8 ∧ d.cell = 0 ∧ ¬ x = d.a := by
    intro d hd
    obtain ⟨h1, h2, h3⟩ := links_mem _ d (List.mem_reverse.1 hd)
    exact ⟨h1, h2, fun e => (List.nodup_cons.1 hn).1 (e ▸ h3)⟩
  have hs : (⟨4#8, 0, x, y⟩ : Call 64).step x = (1, y) := by rw [Call.step4 _ _ rfl, if_pos rfl]
  have hr : runL [x] (links (y :: l)).reverse = (List.replicate l.length 0, [x]) := by
    have := links_idle x (links (y :: l)).reverse hx
    simpa [links_length] using this
  simp only [links, List.reverse_cons, runL_append, hr]
  simp [runL, hs]
end Go.Proofs.Ytjjmjjbeecmmlab
