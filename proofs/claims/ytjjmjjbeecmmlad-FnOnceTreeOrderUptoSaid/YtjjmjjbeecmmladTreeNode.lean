/-
  The contract of all nodes of impl.OnceTree, by induction.
-/
import Derived.Test.YtjjmjjbeecmmladTree
namespace Go.Proofs.Ytjjmjjbeecmmlad
set_option linter.unusedVariables false
set_option linter.unusedSimpArgs false
open Go.RowKit

def Tree.pre (t : Tree) (ord : List Nat) (cnt : List (BitVec 64)) (oa : Option Addr) (oc : Nat) (D : Nat → List Value) (i : Nat) : List Row :=
  ⟨42, t.nb, t.n, t.n, t.db.map clos⟩ :: ⟨40, some ⟨t.vN, 0, none⟩, 1, 1, [.slice t.nb t.n t.n]⟩ ::
  ⟨48, t.cb, t.n, t.n, U cnt⟩ :: ⟨41, some ⟨t.vC, 0, none⟩, 1, 1, [.slice t.cb t.n t.n]⟩ ::
  ⟨3, oa, ord.length, oc, NI ord⟩ :: ⟨28, some ⟨t.vO, 0, none⟩, 1, 1, [.slice oa ord.length oc]⟩ ::
  ⟨23, some ⟨t.vS, 0, none⟩, 1, 1, [.slice t.a1 t.n t.c1]⟩ :: ⟨26, some ⟨t.vP, 0, none⟩, 1, 1, [.slice t.a0 t.np t.c0]⟩ :: (t.ivs ++ (t.ds D).take i)
def Tree.suf (t : Tree) (D : Nat → List Value) (i : Nat) : List Row := (t.ds D).drop (i + 1) ++ t.ex

theorem Tree.split {t : Tree} {ord : List Nat} {cnt : List (BitVec 64)} {oa : Option Addr} {oc : Nat} {D D' : Nat → List Value} {i : Nat} (h : i < t.db.length) (hD : ∀ j, ¬ j = i → D' j = D j) :
    t.pre ord cnt oa oc D i ++ ⟨60, some ⟨t.dbb i, 0, none⟩, 7, 7, (D' i)⟩ :: t.suf D i = t.rows ord cnt oa oc D' := by
  unfold Tree.pre Tree.suf Tree.rows Tree.rest
  simp only [List.cons_append, List.append_assoc]
  rw [← Tree.ds_set h hD]
  simp only [List.cons_append, List.append_assoc]

theorem nodes_ok (t : Tree) (ps : Nat → List Nat) (ownL : List (BitVec 64)) (w0 : World) (hin : TreeIn t ps ownL w0) : ∀ f, NodesOK t ps (fun i => ownL.getD i 0) w0 w0.heap.size f := by
  intro f
  induction f with
  | zero => intro i h; omega
  | succ f ih =>
    intro i hif hi w s D oa oc hD hfi ho hb
    have ldb : i < t.db.length := by rw [hin.ldb]; exact hi
    by_cases hmem : i ∈ s.1
    · have hr : runF ps (f + 1) i s = s := by simp only [runF]; rw [if_pos hmem]
      have hDi : D i = Ran (val ps (fun i => ownL.getD i 0) i) 1 0 := by rw [hD i (Nat.le_refl _)]; unfold Tree.stat; rw [if_pos hmem]
      have e : (fun j => if j ≤ i then t.stat ps (fun i => ownL.getD i 0) s.1 j else D j) = D := by
        funext j
        by_cases hj : j ≤ i
        · rw [if_pos hj, hD j hj]
        · rw [if_neg hj]
      rw [hr, e]
      have ho' := ho
      rw [← Tree.split (D := D) (D' := D) ldb (fun _ _ => rfl), hDi] at ho'
      refine (value_again w w0.heap.size (t.dbb i) _ _ _ ho').mono ?_
      rintro e w' ⟨rfl, rfl⟩
      exact ⟨rfl, oa, oc, ho, Below.refl _ _⟩
    · have hDi : D i = Fresh (t.fv i) 0 := by rw [hD i (Nat.le_refl _)]; unfold Tree.stat; rw [if_neg hmem]
      have ho' := ho
      rw [← Tree.split (D := D) (D' := D) ldb (fun _ _ => rfl), hDi] at ho'
      obtain ⟨s', hs'⟩ : ∃ s', runF ps (f + 1) i s = s' := ⟨_, rfl⟩
      obtain ⟨D1, hD1⟩ : ∃ D1 : Nat → List Value, (fun j => if j = i then Fresh (t.fv i) 1 else D j) = D1 := ⟨_, rfl⟩
      have d1i : D1 i = Fresh (t.fv i) 1 := by rw [← hD1]; simp
      have d1o : ∀ j, ¬ j = i → D1 j = D j := fun j hj => by rw [← hD1]; simp [hj]
      obtain ⟨D2, hD2⟩ : ∃ D2 : Nat → List Value, (fun j => if j < i then t.stat ps (fun i => ownL.getD i 0) s'.1 j else D1 j) = D2 := ⟨_, rfl⟩
      have d2i : D2 i = Fresh (t.fv i) 1 := by rw [← hD2]; simp [d1i]
      have hin' : i ∈ s'.1 := by rw [← hs', midway_all hmem]; simp
      refine (value_first w w0.heap.size (t.dbb i) (t.pre s.1 s.2 oa oc D i) (t.suf D i) 20 (t.cap i) (val ps (fun i => ownL.getD i 0) i) (fun p' q' => ∃ oa' oc', p' = t.pre s'.1 s'.2 oa' oc' D2 i ∧ q' = t.suf D2 i) (inv_leaf t i) ho' ?_).mono ?_
      · intro w1 ho1 hb1
        have ho1' : Owns w1 w0.heap.size (t.rows s.1 s.2 oa oc D1) := by
          rw [← Tree.split (D := D) (D' := D1) ldb d1o, d1i]
          exact ho1
        refine (leaf_any t ps ownL w0 hin f ih i hif hi w1 s D1 oa oc (fun j hj => by rw [d1o j (by omega)]; exact hD j (by omega)) hmem hfi ho1' (hb.trans hb1)).mono ?_
        rintro e w2 ⟨rfl, oa', oc', ho2, hb2⟩
        rw [hs'] at ho2
        rw [hD2, ← Tree.split (D := D2) (D' := D2) ldb (fun _ _ => rfl), d2i] at ho2
        exact ⟨rfl, _, _, ⟨oa', oc', rfl, rfl⟩, ho2, hb2⟩
      · rintro e w' ⟨rfl, p', q', ⟨oa', oc', rfl, rfl⟩, ho2, hb2⟩
        refine ⟨rfl, oa', oc', ?_, hb2⟩
        have e3 : (if i ≤ i then t.stat ps (fun i => ownL.getD i 0) s'.1 i else D i) = Ran (val ps (fun i => ownL.getD i 0) i) 1 0 := by rw [if_pos (Nat.le_refl _)]; unfold Tree.stat; rw [if_pos hin']
        rw [hs', ← Tree.split (D := D2) (D' := fun j => if j ≤ i then t.stat ps (fun i => ownL.getD i 0) s'.1 j else D j) ldb, e3]
        · exact ho2
        · intro j hj
          rw [← hD2]
          by_cases hlt : j < i
          · simp only [hlt, if_true, Nat.le_of_lt hlt]
          · simp only [hlt, if_false]
            rw [if_neg (by omega), d1o j hj]
end Go.Proofs.Ytjjmjjbeecmmlad
