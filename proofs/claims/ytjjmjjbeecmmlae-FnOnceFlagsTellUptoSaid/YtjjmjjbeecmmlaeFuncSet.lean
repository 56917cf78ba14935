/-
  Functions of sync.OnceFunc beside each other: a call of one of them.
-/
import Derived.Test.YtjjmjjbeecmmlaeOnceFunc
import Derived.Test.YtjjmjjbeecmmlaeOncePlain
import Derived.Test.YtjjmjjbeecmmlaeRead
namespace Go.Proofs.Ytjjmjjbeecmmlae
set_option linter.unusedVariables false
set_option linter.unusedSimpArgs false
open Go.RowKit

abbrev ptr (b : Nat) : Value := .pointer (some ⟨b, 0, none⟩)

theorem Owns.cellOf {w : World} {B : Nat} {L : List Row} {e : TypeId} {b n c : Nat} {xs : List Value} (h : Owns w B L) (hr : (⟨e, some ⟨b, 0, none⟩, n, c, xs⟩ : Row) ∈ L) {j : Nat} {v : Value} (hv : xs[j]? = some v) : w.cell? ⟨b, j, none⟩ = some v ∧ w.frozen? ⟨b, j, none⟩ = false := by
  obtain ⟨i, hi⟩ := List.getElem?_of_mem hr
  have hj : j < xs.length := (List.getElem?_eq_some_iff.1 hv).1
  obtain ⟨b', hb, hc, hf, _⟩ := h.cellAt i hi hj
  simp only [Option.some.injEq, Addr.mk.injEq, and_true] at hb
  subst hb
  exact ⟨hc.trans hv, hf⟩
theorem Owns.var {w : World} {B : Nat} {L : List Row} {e : TypeId} {b n c : Nat} {v : Value} {xs : List Value} (h : Owns w B L) (i : Nat) (hi : L[i]? = some ⟨e, some ⟨b, 0, none⟩, n, c, v :: xs⟩) : w.cell? ⟨b, 0, none⟩ = some v ∧ w.frozen? ⟨b, 0, none⟩ = false :=
  h.cellOf (List.mem_of_getElem? hi) rfl

/-- Variables of the rounds of a loop, each in a block of its own. -/
def vars (T : TypeId) (iv : List Nat) (f : Nat → Value) : List Row := iv.mapIdx fun i b => ⟨T, some ⟨b, 0, none⟩, 1, 1, [f i]⟩
theorem vars_mem {T : TypeId} {iv : List Nat} {f : Nat → Value} {i : Nat} (h : i < iv.length) : (⟨T, some ⟨iv.getD i 0, 0, none⟩, 1, 1, [f i]⟩ : Row) ∈ vars T iv f := by
  unfold vars
  refine List.mem_mapIdx.2 ⟨i, h, ?_⟩
  simp [h]
theorem vars_snoc {T : TypeId} {iv : List Nat} {f : Nat → Value} {b k : Nat} (h : iv.length = k) : vars T (iv ++ [b]) f = vars T iv f ++ [⟨T, some ⟨b, 0, none⟩, 1, 1, [f k]⟩] := by
  subst h
  unfold vars
  simp [List.mapIdx_append]

def closF (b : Nat) : Value := .func (.func 28) #[] #[ptr b]
def recsF (db : List Nat) (D : Nat → List Value) : List Row := db.mapIdx fun i b => ⟨67, some ⟨b, 0, none⟩, 6, 6, D i⟩
def statOfF (F : FuncId) (cap : Nat → Array Value) (done : List Nat) (i : Nat) : List Value := if i ∈ done then RanF 1 0 else FreshF (.func (.func F) #[] (cap i)) 0

section
variable {db : List Nat} {D D' : Nat → List Value} {i : Nat}
theorem recs_getF (h : i < db.length) : (recsF db D)[i]? = some ⟨67, some ⟨db.getD i 0, 0, none⟩, 6, 6, D i⟩ := by simp [recsF, h]
theorem recs_setF (h : i < db.length) (hD : ∀ j, ¬ j = i → D' j = D j) : (recsF db D).take i ++ ⟨67, some ⟨db.getD i 0, 0, none⟩, 6, 6, D' i⟩ :: (recsF db D).drop (i + 1) = recsF db D' := by
  have hl : i < (recsF db D).length := by simp [recsF, h]
  have hset := List.set_eq_take_append_cons_drop (l := recsF db D) (i := i) (a := ⟨67, some ⟨db.getD i 0, 0, none⟩, 6, 6, D' i⟩)
  rw [if_pos hl] at hset
  rw [← hset]
  apply List.ext_getElem?
  intro k
  rw [List.getElem?_set]
  by_cases hk : i = k
  · subst hk
    rw [if_pos rfl, if_pos hl, recs_getF h]
  · rw [if_neg hk]
    by_cases hkl : k < db.length
    · rw [recs_getF hkl, recs_getF hkl, hD k (fun e => hk e.symm)]
    · rw [List.getElem?_eq_none (by simp [recsF]; omega), List.getElem?_eq_none (by simp [recsF]; omega)]
theorem recs_snocF {b k : Nat} (h : db.length = k) : recsF (db ++ [b]) D = recsF db D ++ [⟨67, some ⟨b, 0, none⟩, 6, 6, D k⟩] := by
  subst h
  unfold recsF
  simp [List.mapIdx_append]
theorem recs_splitF {H X : List Row} (h : i < db.length) (hD : ∀ j, ¬ j = i → D' j = D j) : (H ++ (recsF db D).take i) ++ ⟨67, some ⟨db.getD i 0, 0, none⟩, 6, 6, D' i⟩ :: ((recsF db D).drop (i + 1) ++ X) = H ++ (recsF db D' ++ X) := by
  rw [← recs_setF h hD]
  simp only [List.cons_append, List.append_assoc]
end

/-- What the function of i owes: rows H become H', all others stay. -/
def ActedF (B : Nat) (w1 : World) (H' Y : List Row) (e : Ending) (w2 : World) : Prop :=
  e = .returned (.tuple #[]) ∧ Owns w2 B (H' ++ Y) ∧ Below B w1 w2

theorem once_callF (db : List Nat) (F : FuncId) (cap : Nat → Array Value) (B : Nat) (w : World) (H H' X : List Row) (i : Nat) (done : List Nat) (hi : i < db.length)
    (hinv : ∀ w : World, (callFunc F (cap i)).run Try.prog w = .ok (.enter F (cap i)) w)
    (ho : Owns w B (H ++ (recsF db (statOfF F cap done) ++ X)))
    (leaf : ¬ i ∈ done → ∀ (w1 : World) (Y : List Row), Owns w1 B (H ++ Y) → Below B w w1 → Calls Try.prog F (cap i) w1 (ActedF B w1 H' Y))
    (hH : i ∈ done → H' = H) :
    Calls Try.prog 28 #[ptr (db.getD i 0)] w (fun e w' => e = .returned (.tuple #[]) ∧ Owns w' B (H' ++ (recsF db (statOfF F cap (if i ∈ done then done else done ++ [i])) ++ X)) ∧ Below B w w') := by
  by_cases hm : i ∈ done
  · have h1 := hH hm
    have hD : statOfF F cap done i = RanF 1 0 := by unfold statOfF; rw [if_pos hm]
    rw [if_pos hm, h1]
    have ho' := ho
    rw [← recs_splitF (D := statOfF F cap done) (D' := statOfF F cap done) hi (fun _ _ => rfl), hD] at ho'
    refine (value_againF w B (db.getD i 0) _ _ ho').mono ?_
    rintro e w' ⟨rfl, rfl⟩
    exact ⟨rfl, ho, Below.refl _ _⟩
  · have hD : statOfF F cap done i = FreshF (.func (.func F) #[] (cap i)) 0 := by unfold statOfF; rw [if_neg hm]
    have ho' := ho
    rw [← recs_splitF (D := statOfF F cap done) (D' := statOfF F cap done) hi (fun _ _ => rfl), hD] at ho'
    rw [if_neg hm]
    refine (value_firstF w B (db.getD i 0) (H ++ (recsF db (statOfF F cap done)).take i) ((recsF db (statOfF F cap done)).drop (i + 1) ++ X) F (cap i) (fun p' q' => p' = H' ++ (recsF db (statOfF F cap done)).take i ∧ q' = (recsF db (statOfF F cap done)).drop (i + 1) ++ X) hinv ho' ?_).mono ?_
    · intro w1 ho1 hb1
      rw [List.append_assoc] at ho1
      refine (leaf hm w1 _ ho1 hb1).mono ?_
      rintro e w2 ⟨rfl, ho2, hb2⟩
      exact ⟨rfl, _, _, ⟨rfl, rfl⟩, by rw [List.append_assoc]; exact ho2, hb2⟩
    · rintro e w' ⟨rfl, p', q', ⟨rfl, rfl⟩, ho2, hb2⟩
      refine ⟨rfl, ?_, hb2⟩
      have e3 : statOfF F cap (done ++ [i]) i = RanF 1 0 := by unfold statOfF; rw [if_pos (by simp)]
      rw [← recs_splitF (D := statOfF F cap done) (D' := statOfF F cap (done ++ [i])) hi, e3]
      · exact ho2
      · intro j hj
        unfold statOfF
        have : (j ∈ done ++ [i]) = (j ∈ done) := by simp [hj]
        simp only [this]

/-- A round of the loop that makes the functions: rows made last go to their kin. -/
theorem rows_kin {w : World} {B : Nat} {A V R : List Row} {s v r : Row} (h : Owns w B ((A ++ (V ++ (R ++ [s]))) ++ [v] ++ [r])) : Owns w B (A ++ ((V ++ [v]) ++ ((R ++ [r]) ++ [s]))) := by
  refine h.perm ?_
  simp only [List.append_assoc]
  refine (List.Perm.refl A).append ((List.Perm.refl V).append ?_)
  have h1 : (R ++ ([s] ++ ([v] ++ [r]))).Perm ([v] ++ (R ++ ([r] ++ [s]))) := by
    have e1 : ([s] ++ ([v] ++ [r])).Perm ([v] ++ ([r] ++ [s])) := by
      have : ([s] ++ ([v] ++ [r])).Perm (([v] ++ [r]) ++ [s]) := List.perm_append_comm
      simpa using this
    have e2 : (R ++ ([v] ++ ([r] ++ [s]))).Perm ([v] ++ (R ++ ([r] ++ [s]))) := List.perm_append_comm_assoc R [v] _
    exact ((List.Perm.refl R).append e1).trans e2
  exact h1
end Go.Proofs.Ytjjmjjbeecmmlae
