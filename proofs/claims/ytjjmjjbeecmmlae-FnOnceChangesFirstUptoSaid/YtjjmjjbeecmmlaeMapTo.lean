/-
  Plain: a list that is changed in place, element by element.
-/
import Derived.Test.YtjjmjjbeecmmlaePlain
namespace Go.Proofs.Ytjjmjjbeecmmlae
set_option linter.unusedVariables false
set_option linter.unusedSimpArgs false

/-- A list whose first k elements have been changed. -/
def mapTo {α : Type} (f : α → α) (l : List α) (k : Nat) : List α := (l.take k).map f ++ l.drop k

section
variable {α : Type} {f : α → α} {l : List α} {k : Nat}
@[simp] theorem mapTo_length : (mapTo f l k).length = l.length := by simp [mapTo]; omega
theorem mapTo_zero : mapTo f l 0 = l := by simp [mapTo]
theorem mapTo_all (h : l.length ≤ k) : mapTo f l k = l.map f := by simp [mapTo, List.take_of_length_le h, List.drop_of_length_le h]
theorem mapTo_get (h : k < l.length) : (mapTo f l k)[k]'(by simpa using h) = l[k] := by
  have e : (mapTo f l k)[k]? = some l[k] := by
    unfold mapTo
    rw [List.getElem?_append_right (by simp; omega)]
    simp [Nat.min_eq_left (Nat.le_of_lt h), h]
  rw [List.getElem?_eq_getElem (by simpa using h)] at e
  exact Option.some.inj e
theorem mapTo_set (h : k < l.length) : (mapTo f l k).set k (f l[k]) = mapTo f l (k + 1) := by
  unfold mapTo
  rw [List.set_append_right _ _ (by simp; omega), List.take_succ_eq_append_getElem h, List.map_append, List.append_assoc]
  congr 1
  have e : k - ((l.take k).map f).length = 0 := by simp; omega
  rw [e, List.drop_eq_getElem_cons h]
  rfl
theorem mapTo_keep (h : k < l.length) (hf : f l[k] = l[k]) : mapTo f l (k + 1) = mapTo f l k := by
  rw [← mapTo_set h, hf]
  have g := mapTo_get (f := f) h
  have e : (mapTo f l k).set k ((mapTo f l k)[k]'(by simpa using h)) = mapTo f l k := List.set_getElem_self (by simpa using h)
  rw [g] at e
  exact e
end

end Go.Proofs.Ytjjmjjbeecmmlae
