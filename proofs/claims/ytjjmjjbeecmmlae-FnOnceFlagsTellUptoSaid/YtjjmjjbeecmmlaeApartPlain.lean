/-
  Plain: cells do not know of each other. What the calls of one cell do is what they do alone.
-/
import Derived.Test.YtjjmjjbeecmmlaePlain
namespace Go.Proofs.Ytjjmjjbeecmmlae
set_option linter.unusedVariables false
set_option linter.unusedSimpArgs false

/-- A script over one cell. -/
def run1 {n : Nat} : BitVec n → List (Call n) → List (BitVec n) × BitVec n
  | x, [] => ([], x)
  | x, c :: cs => ((c.step x).1 :: (run1 (c.step x).2 cs).1, (run1 (c.step x).2 cs).2)

section
variable {n : Nat} {st : List (BitVec n)} {sc : List (Call n)} {c : Nat}

theorem getD_set_self (h : c < st.length) (x : BitVec n) : (st.set c x).getD c 0 = x := by simp [h]
theorem getD_set_other {d : Nat} (h : ¬ d = c) (x : BitVec n) : (st.set d x).getD c 0 = st.getD c 0 := by simp [List.getElem?_set, h]

/-- The calls of one cell among others. -/
theorem own_cell (hc : c < st.length) :
    ((sc.zip (runL st sc).1).filter (fun p => p.1.cell == c)).map (·.2) = (run1 (st.getD c 0) (sc.filter (fun x => x.cell == c))).1 ∧
    (runL st sc).2.getD c 0 = (run1 (st.getD c 0) (sc.filter (fun x => x.cell == c))).2 := by
  induction sc generalizing st with
  | nil => simp [runL, run1]
  | cons d sc ih =>
    have ih' := ih (st := st.set d.cell (d.step (st.getD d.cell 0)).2) (by simpa using hc)
    by_cases hd : d.cell = c
    · subst hd
      rw [getD_set_self hc] at ih'
      simp only [runL, List.zip_cons_cons, List.filter_cons, beq_self_eq_true, ↓reduceIte, List.map_cons, run1]
      exact ⟨by rw [ih'.1], ih'.2⟩
    · rw [getD_set_other hd] at ih'
      have hd' : (d.cell == c) = false := by simpa using hd
      simp only [runL, List.zip_cons_cons, List.filter_cons, hd', Bool.false_eq_true, ↓reduceIte]
      exact ih'

theorem zip_fst {A : List (BitVec n)} (h : sc.length = A.length) : (sc.zip A).map (·.1) = sc := by
  rw [List.map_fst_zip]
  omega

theorem filter_fst {α β : Type} (f : α → Bool) (l : List (α × β)) : (l.filter fun p => f p.1).map (·.1) = (l.map (·.1)).filter f := by
  rw [List.filter_map]
  rfl

/-- A script all of whose calls are of one cell. -/
theorem run_one (hc : c < st.length) (hs : ∀ d ∈ sc, d.cell = c) : (runL st sc).1 = (run1 (st.getD c 0) sc).1 ∧ ∀ e, ¬ e = c → (runL st sc).2.getD e 0 = st.getD e 0 := by
  constructor
  · have h := (own_cell (sc := sc) hc).1
    have hf : sc.filter (fun x => x.cell == c) = sc := List.filter_eq_self.2 fun d hd => by simp [hs d hd]
    have hz : (sc.zip (runL st sc).1).filter (fun p => p.1.cell == c) = sc.zip (runL st sc).1 := List.filter_eq_self.2 fun p hp => by simp [hs p.1 (List.of_mem_zip hp).1]
    rw [hf, hz, List.map_snd_zip (by rw [runL_fst_length]; omega)] at h
    exact h
  · intro e he
    clear hc
    induction sc generalizing st with
    | nil => simp [runL]
    | cons d sc ih =>
      simp only [runL]
      rw [ih (fun x hx => hs x (List.mem_cons_of_mem _ hx)), getD_set_other]
      rw [hs d (by simp)]
      exact fun h => he h.symm

/-- Blocks of calls, one a cell. -/
theorem run_blocks {F : Nat → List (Call n)} (hF : ∀ c, ∀ d ∈ F c, d.cell = c) (cs : List Nat) (hn : cs.Nodup) (hl : ∀ c ∈ cs, c < st.length) :
    (runL st (cs.flatMap F)).1 = cs.flatMap fun c => (run1 (st.getD c 0) (F c)).1 := by
  induction cs generalizing st with
  | nil => simp [runL]
  | cons c cs ih =>
    rw [List.nodup_cons] at hn
    obtain ⟨h1, h2⟩ := run_one (hl c (by simp)) (hF c)
    simp only [List.flatMap_cons]
    rw [runL_append]
    simp only
    rw [h1, ih hn.2 (by rw [runL_snd_length]; exact fun e he => hl e (List.mem_cons_of_mem _ he))]
    congr 1
    simp only [List.flatMap_def]
    congr 1
    refine List.map_congr_left fun e he => ?_
    rw [h2 e (fun h => hn.1 (h ▸ he))]

theorem flat_range {α : Type} (F : Nat → List α) (c m : Nat) : ((List.range m).flatMap fun e => if e = c then F e else []) = if c < m then F c else [] := by
  induction m with
  | zero => simp
  | succ m ih =>
    rw [List.range_succ, List.flatMap_append, ih]
    simp only [List.flatMap_cons, List.flatMap_nil, List.append_nil]
    by_cases h1 : c < m
    · rw [if_pos h1, if_neg (by omega), if_pos (by omega)]; simp
    · rw [if_neg h1]
      by_cases h2 : m = c
      · subst h2; rw [if_pos rfl, if_pos (by omega)]; simp
      · rw [if_neg h2, if_neg (by omega)]; simp

/-- The calls with their answers, put in order by their cells. -/
def byCells (st : List (BitVec n)) (sc : List (Call n)) (m : Nat) : List (Call n × BitVec n) :=
  (List.range m).flatMap fun c => (sc.zip (runL st sc).1).filter (fun p => p.1.cell == c)

theorem byCells_calls : (byCells st sc st.length).map (·.1) = (List.range st.length).flatMap fun c => sc.filter (fun x => x.cell == c) := by
  unfold byCells
  rw [List.map_flatMap]
  congr 1
  funext c
  have h := zip_fst (A := (runL st sc).1) (sc := sc) (by rw [runL_fst_length])
  rw [filter_fst (fun x : Call n => x.cell == c), h]

theorem apart_answers : (runL st ((byCells st sc st.length).map (·.1))).1 = (byCells st sc st.length).map (·.2) := by
  rw [byCells_calls, run_blocks (F := fun c => sc.filter (fun x => x.cell == c)) (fun c d hd => by simpa using (List.mem_filter.1 hd).2) _ List.nodup_range (fun c hc => List.mem_range.1 hc)]
  unfold byCells
  rw [List.map_flatMap]
  simp only [List.flatMap_def]
  congr 1
  refine List.map_congr_left fun c hc => ?_
  exact (own_cell (List.mem_range.1 hc)).1.symm

theorem apart_cells : (runL st ((byCells st sc st.length).map (·.1))).2 = (runL st sc).2 := by
  apply List.ext_getElem
  · rw [runL_snd_length, runL_snd_length]
  · intro c h1 h2
    have hc : c < st.length := by rwa [runL_snd_length] at h1
    have e1 := (own_cell (sc := (byCells st sc st.length).map (·.1)) hc).2
    have e2 := (own_cell (sc := sc) hc).2
    have hf : ((byCells st sc st.length).map (·.1)).filter (fun x => x.cell == c) = sc.filter (fun x => x.cell == c) := by
      rw [byCells_calls, List.filter_flatMap]
      have : (fun e => (sc.filter (fun x => x.cell == e)).filter (fun x => x.cell == c)) = fun e => if e = c then sc.filter (fun x => x.cell == e) else [] := by
        funext e
        by_cases h : e = c
        · subst h; simp
        · rw [if_neg h, List.filter_filter]
          exact List.filter_eq_nil_iff.2 fun x _ => by simp; omega
      rw [this, flat_range (fun e => sc.filter (fun x => x.cell == e)), if_pos hc]
    rw [hf, ← e2] at e1
    simpa [h1, h2] using e1

/-- One cell alone. -/
theorem run1_cell (x : BitVec n) (e : Nat) : run1 x (sc.map fun d => { d with cell := e }) = run1 x sc := by
  induction sc generalizing x with
  | nil => rfl
  | cons d sc ih =>
    have hs : ({ d with cell := e } : Call n).step x = d.step x := rfl
    simp only [List.map_cons, run1, hs, ih]

theorem run_alone (x : BitVec n) (sc : List (Call n)) : runL [x] (sc.map fun d => { d with cell := 0 }) = ((run1 x sc).1, [(run1 x sc).2]) := by
  induction sc generalizing x with
  | nil => rfl
  | cons d sc ih =>
    have hs : ∀ y, ({ d with cell := 0 } : Call n).step y = d.step y := fun _ => rfl
    simp only [List.map_cons, runL, run1, hs, List.getD_cons_zero, List.set_cons_zero, ih]

theorem alone_answers (hc : c < st.length) : runL [st.getD c 0] ((((sc.zip (runL st sc).1).filter (fun p => p.1.cell == c)).map (·.1)).map fun d => { d with cell := 0 }) =
    (((sc.zip (runL st sc).1).filter (fun p => p.1.cell == c)).map (·.2), [(runL st sc).2.getD c 0]) := by
  have h := zip_fst (A := (runL st sc).1) (sc := sc) (by rw [runL_fst_length])
  have hf : ((sc.zip (runL st sc).1).filter (fun p => p.1.cell == c)).map (·.1) = sc.filter (fun x => x.cell == c) := by
    rw [filter_fst (fun x : Call n => x.cell == c), h]
  rw [hf, run_alone, (own_cell hc).1, (own_cell hc).2]
end
end Go.Proofs.Ytjjmjjbeecmmlae
