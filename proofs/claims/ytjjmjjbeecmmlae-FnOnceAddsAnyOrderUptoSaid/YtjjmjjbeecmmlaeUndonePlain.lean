/-
  Plain: what a script has done is undone from its end on; sums in any order.
-/
import Derived.Test.YtjjmjjbeecmmlaeApartPlain
namespace Go.Proofs.Ytjjmjjbeecmmlae
set_option linter.unusedVariables false
set_option linter.unusedSimpArgs false

/-- The call that undoes a call that answered x. -/
def undo (d : Call 64) (x : BitVec 64) : Call 64 :=
  if d.kind = 0#8 then ⟨0#8, d.cell, x, 0⟩
  else if d.kind = 2#8 then ⟨2#8, d.cell, -d.a, 0⟩
  else if d.kind = 4#8 then (if x = 0 then ⟨0#8, d.cell, x, 0⟩ else ⟨4#8, d.cell, d.b, d.a⟩)
  else ⟨1#8, d.cell, x, 0⟩

theorem undo_cell (d : Call 64) (x : BitVec 64) : (undo d x).cell = d.cell := by
  unfold undo
  by_cases h0 : d.kind = 0#8
  · rw [if_pos h0]
  rw [if_neg h0]
  by_cases h2 : d.kind = 2#8
  · rw [if_pos h2]
  rw [if_neg h2]
  by_cases h4 : d.kind = 4#8
  · rw [if_pos h4]
    split <;> rfl
  rw [if_neg h4]

theorem undo_step (d : Call 64) (old : BitVec 64) (h1 : ¬ d.kind = 1#8) (h7 : d.kind.toNat < 7) : ((undo d (d.step old).1).step (d.step old).2).2 = old := by
  by_cases k0 : d.kind = 0#8
  · simp [undo, k0, Call.step]
  by_cases k2 : d.kind = 2#8
  · have e : undo d (d.step old).1 = ⟨2#8, d.cell, -d.a, 0⟩ := by simp [undo, k2]
    rw [e, Call.step2 _ _ rfl, Call.step2 _ _ k2]
    simp only
    rw [BitVec.add_assoc, BitVec.add_right_neg, BitVec.add_zero]
  by_cases k3 : d.kind = 3#8
  · have e : undo d (d.step old).1 = ⟨1#8, d.cell, (d.step old).1, 0⟩ := by simp [undo, k3]
    rw [e, Call.step1 _ _ rfl, Call.step3 _ _ k3]
  by_cases k4 : d.kind = 4#8
  · by_cases he : old = d.a
    · have hs : d.step old = (1, d.b) := by rw [Call.step4 _ _ k4, if_pos he]
      have e : undo d (d.step old).1 = ⟨4#8, d.cell, d.b, d.a⟩ := by rw [hs]; simp [undo, k4]
      rw [e, Call.step4 _ _ rfl, hs]
      simp [he]
    · have hs : d.step old = (0, old) := by rw [Call.step4 _ _ k4, if_neg he]
      have e : undo d (d.step old).1 = ⟨0#8, d.cell, 0, 0⟩ := by rw [hs]; simp [undo, k4]
      rw [e, Call.step0 _ _ rfl, hs]
  by_cases k5 : d.kind = 5#8
  · have e : undo d (d.step old).1 = ⟨1#8, d.cell, (d.step old).1, 0⟩ := by simp [undo, k5]
    rw [e, Call.step1 _ _ rfl, Call.step5 _ _ k5]
  by_cases k6 : d.kind = 6#8
  · have e : undo d (d.step old).1 = ⟨1#8, d.cell, (d.step old).1, 0⟩ := by simp [undo, k6]
    rw [e, Call.step1 _ _ rfl, Call.step6 _ _ k6]
  exfalso
  have n0 : ¬ d.kind.toNat = 0 := fun h => k0 (BitVec.eq_of_toNat_eq (by simpa using h))
  have n1 : ¬ d.kind.toNat = 1 := fun h => h1 (BitVec.eq_of_toNat_eq (by simpa using h))
  have n2 : ¬ d.kind.toNat = 2 := fun h => k2 (BitVec.eq_of_toNat_eq (by simpa using h))
  have n3 : ¬ d.kind.toNat = 3 := fun h => k3 (BitVec.eq_of_toNat_eq (by simpa using h))
  have n4 : ¬ d.kind.toNat = 4 := fun h => k4 (BitVec.eq_of_toNat_eq (by simpa using h))
  have n5 : ¬ d.kind.toNat = 5 := fun h => k5 (BitVec.eq_of_toNat_eq (by simpa using h))
  have n6 : ¬ d.kind.toNat = 6 := fun h => k6 (BitVec.eq_of_toNat_eq (by simpa using h))
  omega

theorem set_getD_same {st : List (BitVec 64)} {j : Nat} : st.set j (st.getD j 0) = st := by
  by_cases h : j < st.length
  · simp [h]
  · exact List.set_eq_of_length_le (by omega)

/-- The undoing script. -/
def undoing (sc : List (Call 64)) (A : List (BitVec 64)) : List (Call 64) := (List.zipWith undo sc A).reverse

theorem undone {st : List (BitVec 64)} {sc : List (Call 64)} (h1 : ∀ d ∈ sc, ¬ d.kind = 1#8) (h7 : ∀ d ∈ sc, d.kind.toNat < 7) (hc : ∀ d ∈ sc, d.cell < st.length) : (runL (runL st sc).2 (undoing sc (runL st sc).1)).2 = st := by
  induction sc generalizing st with
  | nil => rfl
  | cons d sc ih =>
    have hd := hc d (by simp)
    have ih' := ih (st := st.set d.cell (d.step (st.getD d.cell 0)).2) (fun x hx => h1 x (List.mem_cons_of_mem _ hx)) (fun x hx => h7 x (List.mem_cons_of_mem _ hx)) (fun x hx => by simpa using hc x (List.mem_cons_of_mem _ hx))
    have e : undoing (d :: sc) (runL st (d :: sc)).1 = undoing sc (runL (st.set d.cell (d.step (st.getD d.cell 0)).2) sc).1 ++ [undo d (d.step (st.getD d.cell 0)).1] := by simp [undoing, runL]
    rw [e, runL_append]
    have e2 : (runL st (d :: sc)).2 = (runL (st.set d.cell (d.step (st.getD d.cell 0)).2) sc).2 := rfl
    rw [e2, ih']
    simp only [runL]
    rw [undo_cell, getD_set_self hd, undo_step d _ (h1 d (by simp)) (h7 d (by simp)), List.set_set, set_getD_same]

/-! Sums -/
def addTo (s : List (BitVec 64)) (p : Nat × BitVec 64) : List (BitVec 64) := s.set p.1 (s.getD p.1 0 + p.2)

theorem addTo_comm (s : List (BitVec 64)) (p q : Nat × BitVec 64) : addTo (addTo s p) q = addTo (addTo s q) p := by
  unfold addTo
  by_cases h : p.1 = q.1
  · rw [h]
    by_cases hl : q.1 < s.length
    · simp only [List.set_set]
      congr 1
      rw [getD_set_self hl, getD_set_self hl, BitVec.add_assoc, BitVec.add_assoc, BitVec.add_comm p.2]
    · have e : ∀ y, s.set q.1 y = s := fun y => List.set_eq_of_length_le (by omega)
      simp only [e]
  · rw [getD_set_other h, getD_set_other (fun e => h e.symm), List.set_comm _ _ h]

def sums (s : List (BitVec 64)) (l : List (Nat × BitVec 64)) : List (BitVec 64) := l.foldl addTo s

theorem sums_perm {s : List (BitVec 64)} {l l' : List (Nat × BitVec 64)} (h : l.Perm l') : sums s l = sums s l' := by
  unfold sums
  induction h generalizing s with
  | nil => rfl
  | cons x _ ih => simp only [List.foldl_cons]; exact ih
  | swap x y l => simp only [List.foldl_cons]; rw [addTo_comm]
  | trans _ _ ih1 ih2 => exact ih1.trans ih2

/-- A script of additions. -/
def adds (l : List (Nat × BitVec 64)) (bs : List (BitVec 64)) : List (Call 64) := List.zipWith (fun p b => ⟨2#8, p.1, p.2, b⟩) l bs

theorem adds_run {s : List (BitVec 64)} {l : List (Nat × BitVec 64)} {bs : List (BitVec 64)} (hb : l.length = bs.length) (hl : ∀ p ∈ l, p.1 < s.length) :
    (runL s (adds l bs)).2 = sums s l ∧ ∀ k, (h : k < l.length) → (runL s (adds l bs)).1.getD k 0 = (sums s (l.take (k + 1))).getD (l[k]).1 0 := by
  induction l generalizing s bs with
  | nil => simp [adds, runL, sums]
  | cons p l ih =>
    cases bs with
    | nil => simp at hb
    | cons b bs =>
      have hp := hl p (by simp)
      have ih' := ih (s := addTo s p) (bs := bs) (by simpa using hb) (fun q hq => by unfold addTo; simpa using hl q (List.mem_cons_of_mem _ hq))
      have e : runL s (adds (p :: l) (b :: bs)) = ((s.getD p.1 0 + p.2) :: (runL (addTo s p) (adds l bs)).1, (runL (addTo s p) (adds l bs)).2) := by
        simp [adds, runL, Call.step, addTo]
      rw [e]
      refine ⟨by simpa [sums] using ih'.1, fun k hk => ?_⟩
      cases k with
      | zero => simp [sums, addTo, hp]
      | succ k => simpa [sums] using ih'.2 k (by simpa using hk)
end Go.Proofs.Ytjjmjjbeecmmlae
