/-
  Functions of sync.OnceValue beside each other: a call of one of them.
-/
import Derived.Test.YtjjmjjbeecmmlafOnceValue
import Derived.Test.YtjjmjjbeecmmlafOncePlain
import Derived.Test.YtjjmjjbeecmmlafRead
namespace Go.Proofs.Ytjjmjjbeecmmlaf
set_option linter.unusedVariables false
set_option linter.unusedSimpArgs false
open Go.RowKit

abbrev ptr (b : Nat) : Value := .pointer (some ⟨b, 0, none⟩)

theorem Owns.cellOf {w : World} {B : Nat} {L : List Row} {e : TypeId} {b n c : Nat} {xs : List Value} (h : Owns w B L) (hr : (⟨e, some ⟨b, 0, none⟩, n, c, xs⟩ : Row) ∈ L) {j : Nat} {v : Value} (hv : xs[j]? = some v) : w.cell? ⟨b, j, none⟩ = some v ∧ w.frozen? ⟨b, j, none⟩ = false := by
  obtain ⟨i, hi⟩ := List.getElem?_of_mem hr
  have hj : j < xs.length := (List.getElem?_eq_some_iff.1 hv).1
  obtain ⟨b', hb, hc, hf, _⟩ := h.cellAt i hi hj
  simp only [Option.some.injEq, Addr.mk.injEq, and_true] at hb
  subst hb
  exact ⟨hc.trans hv, hf⟩
theorem Owns.var {w : World} {B : Nat} {L : List Row} {e : TypeId} {b n c : Nat} {v : Value} {xs : List Value} (h : Owns w B L) (i : Nat) (hi : L[i]? = some ⟨e, some ⟨b, 0, none⟩, n, c, v :: xs⟩) : w.cell? ⟨b, 0, none⟩ = some v ∧ w.frozen? ⟨b, 0, none⟩ = false :=
  h.cellOf (List.mem_of_getElem? hi) rfl

/-- Variables of the rounds of a loop, each in a block of its own. -/
def vars (T : TypeId) (iv : List Nat) (f : Nat → Value) : List Row := iv.mapIdx fun i b => ⟨T, some ⟨b, 0, none⟩, 1, 1, [f i]⟩
theorem vars_mem {T : TypeId} {iv : List Nat} {f : Nat → Value} {i : Nat} (h : i < iv.length) : (⟨T, some ⟨iv.getD i 0, 0, none⟩, 1, 1, [f i]⟩ : Row) ∈ vars T iv f := by
  unfold vars
  refine List.mem_mapIdx.2 ⟨i, h, ?_⟩
  simp [h]
theorem vars_snoc {T : TypeId} {iv : List Nat} {f : Nat → Value} {b k : Nat} (h : iv.length = k) : vars T (iv ++ [b]) f = vars T iv f ++ [⟨T, some ⟨b, 0, none⟩, 1, 1, [f k]⟩] := by
  subst h
  unfold vars
  simp [List.mapIdx_append]

def clos (b : Nat) : Value := .func (.func 43) #[] #[ptr b]
def recs (db : List Nat) (D : Nat → List Value) : List Row := db.mapIdx fun i b => ⟨76, some ⟨b, 0, none⟩, 7, 7, D i⟩
def statOf (F : FuncId) (cap : Nat → Array Value) (done : List Nat) (vals : Nat → BitVec 64) (i : Nat) : List Value := if i ∈ done then Ran (vals i) 1 0 else Fresh (.func (.func F) #[] (cap i)) 0

section
variable {db : List Nat} {D D' : Nat → List Value} {i : Nat}
theorem recs_get (h : i < db.length) : (recs db D)[i]? = some ⟨76, some ⟨db.getD i 0, 0, none⟩, 7, 7, D i⟩ := by simp [recs, h]
theorem recs_set (h : i < db.length) (hD : ∀ j, ¬ j = i → D' j = D j) : (recs db D).take i ++ ⟨76, some ⟨db.getD i 0, 0, none⟩, 7, 7, D' i⟩ :: (recs db D).drop (i + 1) = recs db D' := by
  have hl : i < (recs db D).length := by simp [recs, h]
  have hset := List.set_eq_take_append_cons_drop (l := recs db D) (i := i) (a := ⟨76, some ⟨db.getD i 0, 0, none⟩, 7, 7, D' i⟩)
  rw [if_pos hl] at hset
  rw [← hset]
  apply List.ext_getElem?
  intro k
  rw [List.getElem?_set]
  by_cases hk : i = k
  · subst hk
    rw [if_pos rfl, if_pos hl, recs_get h]
  · rw [if_neg hk]
    by_cases hkl : k < db.length
    · rw [recs_get hkl, recs_get hkl, hD k (fun e => hk e.symm)]
    · rw [List.getElem?_eq_none (by simp [recs]; omega), List.getElem?_eq_none (by simp [recs]; omega)]
theorem recs_snoc {b k : Nat} (h : db.length = k) : recs (db ++ [b]) D = recs db D ++ [⟨76, some ⟨b, 0, none⟩, 7, 7, D k⟩] := by
  subst h
  unfold recs
  simp [List.mapIdx_append]
theorem recs_split {H X : List Row} (h : i < db.length) (hD : ∀ j, ¬ j = i → D' j = D j) : (H ++ (recs db D).take i) ++ ⟨76, some ⟨db.getD i 0, 0, none⟩, 7, 7, D' i⟩ :: ((recs db D).drop (i + 1) ++ X) = H ++ (recs db D' ++ X) := by
  rw [← recs_set h hD]
  simp only [List.cons_append, List.append_assoc]
end

/-- What the function of i owes: rows H become H', all others stay. -/
def Acted (B : Nat) (w1 : World) (H' Y : List Row) (r : BitVec 64) (e : Ending) (w2 : World) : Prop :=
  e = .returned (.int .u64 (r.toNat : Int)) ∧ Owns w2 B (H' ++ Y) ∧ Below B w1 w2

theorem once_call (db : List Nat) (F : FuncId) (cap : Nat → Array Value) (B : Nat) (w : World) (H H' X : List Row) (i : Nat) (done : List Nat) (vals vals' : Nat → BitVec 64) (hi : i < db.length)
    (hinv : ∀ w : World, (callFunc F (cap i)).run Try.prog w = .ok (.enter F (cap i)) w)
    (ho : Owns w B (H ++ (recs db (statOf F cap done vals) ++ X)))
    (leaf : ¬ i ∈ done → ∀ (w1 : World) (Y : List Row), Owns w1 B (H ++ Y) → Below B w w1 → Calls Try.prog F (cap i) w1 (Acted B w1 H' Y (vals' i)))
    (hH : i ∈ done → H' = H ∧ vals' i = vals i) (hv : ∀ j, ¬ j = i → vals' j = vals j) :
    Calls Try.prog 43 #[ptr (db.getD i 0)] w (fun e w' => e = .returned (.int .u64 ((vals' i).toNat : Int)) ∧ Owns w' B (H' ++ (recs db (statOf F cap (if i ∈ done then done else done ++ [i]) vals') ++ X)) ∧ Below B w w') := by
  by_cases hm : i ∈ done
  · obtain ⟨h1, h2⟩ := hH hm
    have hD : statOf F cap done vals i = Ran (vals i) 1 0 := by unfold statOf; rw [if_pos hm]
    have e1 : statOf F cap done vals' = statOf F cap done vals := by
      funext j
      unfold statOf
      by_cases hj : j = i
      · subst hj; rw [h2]
      · rw [hv j hj]
    rw [if_pos hm, h1, e1, h2]
    have ho' := ho
    rw [← recs_split (D := statOf F cap done vals) (D' := statOf F cap done vals) hi (fun _ _ => rfl), hD] at ho'
    refine (value_again w B (db.getD i 0) _ _ _ ho').mono ?_
    rintro e w' ⟨rfl, rfl⟩
    exact ⟨rfl, ho, Below.refl _ _⟩
  · have hD : statOf F cap done vals i = Fresh (.func (.func F) #[] (cap i)) 0 := by unfold statOf; rw [if_neg hm]
    have ho' := ho
    rw [← recs_split (D := statOf F cap done vals) (D' := statOf F cap done vals) hi (fun _ _ => rfl), hD] at ho'
    rw [if_neg hm]
    refine (value_first w B (db.getD i 0) (H ++ (recs db (statOf F cap done vals)).take i) ((recs db (statOf F cap done vals)).drop (i + 1) ++ X) F (cap i) (vals' i) (fun p' q' => p' = H' ++ (recs db (statOf F cap done vals)).take i ∧ q' = (recs db (statOf F cap done vals)).drop (i + 1) ++ X) hinv ho' ?_).mono ?_
    · intro w1 ho1 hb1
      rw [List.append_assoc] at ho1
      refine (leaf hm w1 _ ho1 hb1).mono ?_
      rintro e w2 ⟨rfl, ho2, hb2⟩
      exact ⟨rfl, _, _, ⟨rfl, rfl⟩, by rw [List.append_assoc]; exact ho2, hb2⟩
    · rintro e w' ⟨rfl, p', q', ⟨rfl, rfl⟩, ho2, hb2⟩
      refine ⟨rfl, ?_, hb2⟩
      have e3 : statOf F cap (done ++ [i]) vals' i = Ran (vals' i) 1 0 := by unfold statOf; rw [if_pos (by simp)]
      rw [← recs_split (D := statOf F cap done vals) (D' := statOf F cap (done ++ [i]) vals') hi, e3]
      · exact ho2
      · intro j hj
        unfold statOf
        have : (j ∈ done ++ [i]) = (j ∈ done) := by simp [hj]
        simp only [this, hv j hj]

/-- A round of the loop that makes the functions: rows made last go to their kin. -/
theorem rows_kin {w : World} {B : Nat} {A V R : List Row} {s v r : Row} (h : Owns w B ((A ++ (V ++ (R ++ [s]))) ++ [v] ++ [r])) : Owns w B (A ++ ((V ++ [v]) ++ ((R ++ [r]) ++ [s]))) := by
  refine h.perm ?_
  simp only [List.append_assoc]
  refine (List.Perm.refl A).append ((List.Perm.refl V).append ?_)
  have h1 : (R ++ ([s] ++ ([v] ++ [r]))).Perm ([v] ++ (R ++ ([r] ++ [s]))) := by
    have e1 : ([s] ++ ([v] ++ [r])).Perm ([v] ++ ([r] ++ [s])) := by
      have : ([s] ++ ([v] ++ [r])).Perm (([v] ++ [r]) ++ [s]) := List.perm_append_comm
      simpa using this
    have e2 : (R ++ ([v] ++ ([r] ++ [s]))).Perm ([v] ++ (R ++ ([r] ++ [s]))) := List.perm_append_comm_assoc R [v] _
    exact ((List.Perm.refl R).append e1).trans e2
  exact h1
end Go.Proofs.Ytjjmjjbeecmmlaf
