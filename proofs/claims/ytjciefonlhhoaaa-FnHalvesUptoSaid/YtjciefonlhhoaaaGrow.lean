/-
  Rows in loops: a script's four rows that grow by a call; a row that is changed in place, element by element.
-/
import Derived.Test.YtjciefonlhhoaaaOwn
namespace Go.Proofs.Ytjciefonlhhoaaa
set_option linter.unusedVariables false
set_option linter.unusedSimpArgs false
open Go.RowKit

theorem Owns.drewN {w : World} {B : Nat} {L : List Row} (h : Owns w B L) (n : Nat) : Owns (w.drewN n) B L := by
  induction n with
  | zero => exact h
  | succ n ih => exact ih.drew

theorem Owns.has {w : World} {B : Nat} {L : List Row} {e : TypeId} {b n c k : Nat} {xs : List Value} (h : Owns w B L) (i : Nat) (hi : L[i]? = some ⟨e, some ⟨b, 0, none⟩, n, c, xs⟩) (hk : k < xs.length) : ∃ u, w.cell? ⟨b, k, none⟩ = some u := by
  obtain ⟨b', hb, hc, _⟩ := h.cellAt i hi hk
  simp only [Option.some.injEq, Addr.mk.injEq, and_true] at hb
  subst hb
  exact ⟨_, by rw [hc, List.getElem?_eq_getElem hk]⟩

/-- The four rows of a script, one call more. -/
theorem rows_step {w : World} {B k m : Nat} {p : List Row} {a0 a1 a2 a3 : Option Addr} {c0 c1 c2 c3 : Nat} {sc : List (Call 64)} (h : k < sc.length) {x0 x1 x2 x3 : Value} {d : Call 64} (hd : sc[k] = d) (hm : m = k + 1)
    (e0 : x0 = .int .u8 (d.kind.toNat : Int)) (e1 : x1 = .int .i64 (d.cell : Int)) (e2 : x2 = .int .u64 (d.a.toNat : Int)) (e3 : x3 = .int .u64 (d.b.toNat : Int))
    (ho : Owns w B (p ++ [⟨5, a0, k + 1, c0, U8 (kindsOf (sc.take k)) ++ [x0]⟩, ⟨3, a1, k + 1, c1, NI (cellsOf (sc.take k)) ++ [x1]⟩, ⟨28, a2, k + 1, c2, U (asOf (sc.take k)) ++ [x2]⟩, ⟨28, a3, k + 1, c3, U (bsOf (sc.take k)) ++ [x3]⟩])) :
    Owns w B (p ++ [⟨5, a0, m, c0, U8 (kindsOf (sc.take m))⟩, ⟨3, a1, m, c1, NI (cellsOf (sc.take m))⟩, ⟨28, a2, m, c2, U (asOf (sc.take m))⟩, ⟨28, a3, m, c3, U (bsOf (sc.take m))⟩]) := by
  subst e0 e1 e2 e3 hm
  rw [take_snoc h, hd]
  simp only [kindsOf, cellsOf, asOf, bsOf, List.map_append, List.map_cons, List.map_nil, U_snoc, U8_snoc, NI_snoc]
  exact ho

/-- A list whose first k elements have been changed. -/
def mapTo {α : Type} (f : α → α) (l : List α) (k : Nat) : List α := (l.take k).map f ++ l.drop k

section
variable {α : Type} {f : α → α} {l : List α} {k : Nat}
@[simp] theorem mapTo_length : (mapTo f l k).length = l.length := by simp [mapTo]; omega
theorem mapTo_zero : mapTo f l 0 = l := by simp [mapTo]
theorem mapTo_all (h : l.length ≤ k) : mapTo f l k = l.map f := by simp [mapTo, List.take_of_length_le h, List.drop_of_length_le h]
theorem mapTo_get (h : k < l.length) : (mapTo f l k)[k]'(by simpa using h) = l[k] := by
  have e : (mapTo f l k)[k]? = some l[k] := by
    unfold mapTo
    rw [List.getElem?_append_right (by simp; omega)]
    simp [Nat.min_eq_left (Nat.le_of_lt h), h]
  rw [List.getElem?_eq_getElem (by simpa using h)] at e
  exact Option.some.inj e
theorem mapTo_set (h : k < l.length) : (mapTo f l k).set k (f l[k]) = mapTo f l (k + 1) := by
  unfold mapTo
  rw [List.set_append_right _ _ (by simp; omega), List.take_succ_eq_append_getElem h, List.map_append, List.append_assoc]
  congr 1
  have e : k - ((l.take k).map f).length = 0 := by simp; omega
  rw [e, List.drop_eq_getElem_cons h]
  rfl
theorem mapTo_keep (h : k < l.length) (hf : f l[k] = l[k]) : mapTo f l (k + 1) = mapTo f l k := by
  rw [← mapTo_set h, hf]
  have g := mapTo_get (f := f) h
  have e : (mapTo f l k).set k ((mapTo f l k)[k]'(by simpa using h)) = mapTo f l k := List.set_getElem_self (by simpa using h)
  rw [g] at e
  exact e
end

theorem u64_neg (x : BitVec 64) : IntKind.u64.wrap (-(x.toNat : Int)) = ((-x).toNat : Int) := by
  rw [IntKind.wrap_u64, BitVec.toNat_neg]
  have := x.isLt
  omega
end Go.Proofs.Ytjciefonlhhoaaa
