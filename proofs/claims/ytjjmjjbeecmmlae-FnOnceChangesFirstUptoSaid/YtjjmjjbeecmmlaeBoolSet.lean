/-
  Functions of sync.OnceValue beside each other: a call of one of them.
-/
import Derived.Test.YtjjmjjbeecmmlaeOnceBool
import Derived.Test.YtjjmjjbeecmmlaeFuncSet
import Derived.Test.YtjjmjjbeecmmlaeOncePlain
import Derived.Test.YtjjmjjbeecmmlaeRead
namespace Go.Proofs.Ytjjmjjbeecmmlae
set_option linter.unusedVariables false
set_option linter.unusedSimpArgs false
open Go.RowKit

def closB (b : Nat) : Value := .func (.func 35) #[] #[ptr b]
def recsB (db : List Nat) (D : Nat → List Value) : List Row := db.mapIdx fun i b => ⟨74, some ⟨b, 0, none⟩, 7, 7, D i⟩
def statOfB (F : FuncId) (cap : Nat → Array Value) (done : List Nat) (vals : Nat → Bool) (i : Nat) : List Value := if i ∈ done then RanB (vals i) 1 0 else FreshB (.func (.func F) #[] (cap i)) 0

section
variable {db : List Nat} {D D' : Nat → List Value} {i : Nat}
theorem recs_getB (h : i < db.length) : (recsB db D)[i]? = some ⟨74, some ⟨db.getD i 0, 0, none⟩, 7, 7, D i⟩ := by simp [recsB, h]
theorem recs_setB (h : i < db.length) (hD : ∀ j, ¬ j = i → D' j = D j) : (recsB db D).take i ++ ⟨74, some ⟨db.getD i 0, 0, none⟩, 7, 7, D' i⟩ :: (recsB db D).drop (i + 1) = recsB db D' := by
  have hl : i < (recsB db D).length := by simp [recsB, h]
  have hset := List.set_eq_take_append_cons_drop (l := recsB db D) (i := i) (a := ⟨74, some ⟨db.getD i 0, 0, none⟩, 7, 7, D' i⟩)
  rw [if_pos hl] at hset
  rw [← hset]
  apply List.ext_getElem?
  intro k
  rw [List.getElem?_set]
  by_cases hk : i = k
  · subst hk
    rw [if_pos rfl, if_pos hl, recs_getB h]
  · rw [if_neg hk]
    by_cases hkl : k < db.length
    · rw [recs_getB hkl, recs_getB hkl, hD k (fun e => hk e.symm)]
    · rw [List.getElem?_eq_none (by simp [recsB]; omega), List.getElem?_eq_none (by simp [recsB]; omega)]
theorem recs_snocB {b k : Nat} (h : db.length = k) : recsB (db ++ [b]) D = recsB db D ++ [⟨74, some ⟨b, 0, none⟩, 7, 7, D k⟩] := by
  subst h
  unfold recsB
  simp [List.mapIdx_append]
theorem recs_splitB {H X : List Row} (h : i < db.length) (hD : ∀ j, ¬ j = i → D' j = D j) : (H ++ (recsB db D).take i) ++ ⟨74, some ⟨db.getD i 0, 0, none⟩, 7, 7, D' i⟩ :: ((recsB db D).drop (i + 1) ++ X) = H ++ (recsB db D' ++ X) := by
  rw [← recs_setB h hD]
  simp only [List.cons_append, List.append_assoc]
end

/-- What the function of i owes: rows H become H', all others stay. -/
def ActedB (B : Nat) (w1 : World) (H' Y : List Row) (r : Bool) (e : Ending) (w2 : World) : Prop :=
  e = .returned (.bool r) ∧ Owns w2 B (H' ++ Y) ∧ Below B w1 w2

theorem once_callB (db : List Nat) (F : FuncId) (cap : Nat → Array Value) (B : Nat) (w : World) (H H' X : List Row) (i : Nat) (done : List Nat) (vals vals' : Nat → Bool) (hi : i < db.length)
    (hinv : ∀ w : World, (callFunc F (cap i)).run Try.prog w = .ok (.enter F (cap i)) w)
    (ho : Owns w B (H ++ (recsB db (statOfB F cap done vals) ++ X)))
    (leaf : ¬ i ∈ done → ∀ (w1 : World) (Y : List Row), Owns w1 B (H ++ Y) → Below B w w1 → Calls Try.prog F (cap i) w1 (ActedB B w1 H' Y (vals' i)))
    (hH : i ∈ done → H' = H ∧ vals' i = vals i) (hv : ∀ j, ¬ j = i → vals' j = vals j) :
    Calls Try.prog 35 #[ptr (db.getD i 0)] w (fun e w' => e = .returned (.bool (vals' i)) ∧ Owns w' B (H' ++ (recsB db (statOfB F cap (if i ∈ done then done else done ++ [i]) vals') ++ X)) ∧ Below B w w') := by
  by_cases hm : i ∈ done
  · obtain ⟨h1, h2⟩ := hH hm
    have hD : statOfB F cap done vals i = RanB (vals i) 1 0 := by unfold statOfB; rw [if_pos hm]
    have e1 : statOfB F cap done vals' = statOfB F cap done vals := by
      funext j
      unfold statOfB
      by_cases hj : j = i
      · subst hj; rw [h2]
      · rw [hv j hj]
    rw [if_pos hm, h1, e1, h2]
    have ho' := ho
    rw [← recs_splitB (D := statOfB F cap done vals) (D' := statOfB F cap done vals) hi (fun _ _ => rfl), hD] at ho'
    refine (value_againB w B (db.getD i 0) _ _ _ ho').mono ?_
    rintro e w' ⟨rfl, rfl⟩
    exact ⟨rfl, ho, Below.refl _ _⟩
  · have hD : statOfB F cap done vals i = FreshB (.func (.func F) #[] (cap i)) 0 := by unfold statOfB; rw [if_neg hm]
    have ho' := ho
    rw [← recs_splitB (D := statOfB F cap done vals) (D' := statOfB F cap done vals) hi (fun _ _ => rfl), hD] at ho'
    rw [if_neg hm]
    refine (value_firstB w B (db.getD i 0) (H ++ (recsB db (statOfB F cap done vals)).take i) ((recsB db (statOfB F cap done vals)).drop (i + 1) ++ X) F (cap i) (vals' i) (fun p' q' => p' = H' ++ (recsB db (statOfB F cap done vals)).take i ∧ q' = (recsB db (statOfB F cap done vals)).drop (i + 1) ++ X) hinv ho' ?_).mono ?_
    · intro w1 ho1 hb1
      rw [List.append_assoc] at ho1
      refine (leaf hm w1 _ ho1 hb1).mono ?_
      rintro e w2 ⟨rfl, ho2, hb2⟩
      exact ⟨rfl, _, _, ⟨rfl, rfl⟩, by rw [List.append_assoc]; exact ho2, hb2⟩
    · rintro e w' ⟨rfl, p', q', ⟨rfl, rfl⟩, ho2, hb2⟩
      refine ⟨rfl, ?_, hb2⟩
      have e3 : statOfB F cap (done ++ [i]) vals' i = RanB (vals' i) 1 0 := by unfold statOfB; rw [if_pos (by simp)]
      rw [← recs_splitB (D := statOfB F cap done vals) (D' := statOfB F cap (done ++ [i]) vals') hi, e3]
      · exact ho2
      · intro j hj
        unfold statOfB
        have : (j ∈ done ++ [i]) = (j ∈ done) := by simp [hj]
        simp only [this, hv j hj]

end Go.Proofs.Ytjjmjjbeecmmlae
