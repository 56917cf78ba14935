/-
  Rows of truth values.
-/
import Derived.Test.YtjjmjjbeecmmlaeRead
namespace Go.Proofs.Ytjjmjjbeecmmlae
set_option linter.unusedVariables false
set_option linter.unusedSimpArgs false
open Go.RowKit

theorem infoB : (Try.prog.info? 4).map (fun i => (i.zero, i.size, i.bytes)) = some (some (.bool false), 1, 1) := by kernel_rfl
/-- A list of truth values as cells. -/
def BL (xs : List Bool) : List Value := xs.map .bool
section
variable {xs : List Bool} {i : Nat}
@[simp] theorem BL_length : (BL xs).length = xs.length := by simp [BL]
@[simp] theorem BL_nil : BL [] = [] := rfl
theorem BL_snoc (x : Bool) : BL (xs ++ [x]) = BL xs ++ [.bool x] := by simp [BL]
theorem BL_get (h : i < xs.length) : (BL xs)[i]? = some (.bool xs[i]) := by simp [BL, h]
theorem BL_set (x : Bool) : (BL xs).set i (.bool x) = BL (xs.set i x) := by simp [BL, List.map_set]
end
section
variable {w : World} {ops : Array Oper} {rest : List Oper} {o : Oper} {a : Act} {Q : Exit → Act → World → Prop} {B : Nat} (p q : List Row) {ra : Option Addr} {n rc : Nat} {xs : List Value} {v : Value} (s x : Operand)
theorem appBs (hgd : o.guard = none) (ho : o.op = .call { callee := .builtin .append, args := #[s, x], argTypes := #[34, 34] }) (sz : Nat) (hsz : w.heap.size = sz) (hs : a.eval s = .slice ra n rc) (hx : a.eval x = .slice (some ⟨sz, 0, none⟩) 1 1)
    (hown : Owns w B (p ++ ⟨4, ra, n, rc, xs⟩ :: q)) (hv : v.oneCell' = true) (hn : n < 17592186043904) (hB : B ≤ sz)
    (h : ∀ a' c' w', Owns w' B (p ++ ⟨4, a', n + 1, c', xs ++ [v]⟩ :: q) → Below B w w' → sz ≤ w'.heap.size → wpList Try.prog ops Q rest (a.put o.dst (.slice a' (n + 1) c')) w') :
    wpList Try.prog ops Q (o :: rest) a (w.alloc (.cells #[v] 4)) :=
  wpList_append1s Try.underlying34 infoB rfl (by decide) p q s x sz hsz hgd ho hs hx hown hv (by omega) hB h
end
theorem Owns.getB {w : World} {B : Nat} {L : List Row} {e : TypeId} {b n c k : Nat} {xs : List Bool} {v : Bool} (h : Owns w B L) (i : Nat) (hi : L[i]? = some ⟨e, some ⟨b, 0, none⟩, n, c, BL xs⟩) (hv : xs[k]? = some v) : w.cell? ⟨b, k, none⟩ = some (.bool v) := by
  obtain ⟨hk, hv⟩ := List.getElem?_eq_some_iff.1 hv
  obtain ⟨b', hb, hc, _⟩ := h.cellAt i hi (j := k) (by simpa using hk)
  simp only [Option.some.injEq, Addr.mk.injEq, and_true] at hb
  subst hb
  rw [hc, BL_get hk, hv]
theorem made_bool (n : Nat) : (madeCells #[.bool false] n).toList = BL (List.replicate n false) := by
  simp only [madeCells, BL]
  rw [List.map_replicate]
  apply List.ext_getElem
  · simp
  · intro i h1 h2
    simp [Nat.mod_one]
end Go.Proofs.Ytjjmjjbeecmmlae
