/-
  Rows made last go to their kin; appends to lists of actions.
-/
import Derived.Test.YtjjmjjbeecmmlaeFuncSet
namespace Go.Proofs.Ytjjmjjbeecmmlae
set_option linter.unusedVariables false
set_option linter.unusedSimpArgs false
open Go.RowKit

theorem rows_kin2 {w : World} {B : Nat} {A V W R : List Row} {s v u r : Row} (h : Owns w B ((A ++ (V ++ (W ++ (R ++ [s])))) ++ [v] ++ [u] ++ [r])) : Owns w B (A ++ ((V ++ [v]) ++ ((W ++ [u]) ++ ((R ++ [r]) ++ [s])))) := by
  refine h.perm ?_
  simp only [List.append_assoc]
  refine (List.Perm.refl A).append ((List.Perm.refl V).append ?_)
  have e1 : (W ++ (R ++ ([s] ++ ([v] ++ ([u] ++ [r]))))).Perm ([v] ++ (W ++ (R ++ ([s] ++ ([u] ++ [r]))))) := by
    have h1 : (R ++ ([s] ++ ([v] ++ ([u] ++ [r])))).Perm ([v] ++ (R ++ ([s] ++ ([u] ++ [r])))) := by
      have h2 : ([s] ++ ([v] ++ ([u] ++ [r]))).Perm ([v] ++ ([s] ++ ([u] ++ [r]))) := List.perm_append_comm_assoc _ _ _
      exact ((List.Perm.refl R).append h2).trans (List.perm_append_comm_assoc _ _ _)
    exact ((List.Perm.refl W).append h1).trans (List.perm_append_comm_assoc _ _ _)
  refine e1.trans ((List.Perm.refl [v]).append ((List.Perm.refl W).append ?_))
  have h3 : ([s] ++ ([u] ++ [r])).Perm ([u] ++ ([r] ++ [s])) := by
    have := List.perm_append_comm (l₁ := [s]) (l₂ := [u] ++ [r])
    simpa using this
  exact ((List.Perm.refl R).append h3).trans (List.perm_append_comm_assoc _ _ _)

theorem infoFF : (Try.prog.info? 1).map (fun i => (i.zero, i.size, i.bytes)) = some (some .nilFunc, 1, 8) := by kernel_rfl
section
variable {w : World} {ops : Array Oper} {rest : List Oper} {o : Oper} {a : Act} {Q : Exit → Act → World → Prop} {B : Nat} (p q : List Row) {ra : Option Addr} {n rc : Nat} {xs : List Value} {v : Value} (s x : Operand)
theorem appFFs (hgd : o.guard = none) (ho : o.op = .call { callee := .builtin .append, args := #[s, x], argTypes := #[47, 47] }) (sz : Nat) (hsz : w.heap.size = sz) (hs : a.eval s = .slice ra n rc) (hx : a.eval x = .slice (some ⟨sz, 0, none⟩) 1 1)
    (hown : Owns w B (p ++ ⟨1, ra, n, rc, xs⟩ :: q)) (hv : v.oneCell' = true) (hn : n < 17592186043904) (hB : B ≤ sz)
    (h : ∀ a' c' w', Owns w' B (p ++ ⟨1, a', n + 1, c', xs ++ [v]⟩ :: q) → Below B w w' → sz ≤ w'.heap.size → wpList Try.prog ops Q rest (a.put o.dst (.slice a' (n + 1) c')) w') :
    wpList Try.prog ops Q (o :: rest) a (w.alloc (.cells #[v] 1)) :=
  wpList_append1s Try.underlying47 infoFF rfl (by decide) p q s x sz hsz hgd ho hs hx hown hv (by omega) hB h
end
end Go.Proofs.Ytjjmjjbeecmmlae
