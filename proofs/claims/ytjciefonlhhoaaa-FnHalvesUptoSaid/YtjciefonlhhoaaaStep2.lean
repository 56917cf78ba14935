/-
  'out = append(out, x, y)', out a row of the call's own: in a region that draws its order, and in one that does not.
-/
import Derived.Test.YtjciefonlhhoaaaStep
import Derived.Test.YtjciefonlhhoaaaRun32
namespace Go.Proofs.Ytjciefonlhhoaaa
set_option linter.unusedVariables false
set_option linter.unusedSimpArgs false
open Go.RowKit

theorem two_rd (w : World) (e : TypeId) (v1 v2 : Value) : Rd (w.alloc (.cells #[v1, v2] e)) (some ⟨w.heap.size, 0, none⟩) [v1, v2] :=
  ((Owns.nil w w.heap.size).made (Nat.le_refl _) e #[v1, v2] (by simp [maxLen])).rdAt 0 rfl

section
variable {P : Program} {ops : Array Oper} {o : Oper} {a : Act} {w : World} {K : Act → World → Prop} {Q : Exit → Act → World → Prop} {E : Prop}
theorem step_append2 {t e bytes : Nat} {z : Value} (ht : P.underlying t = some (.slice e))
    (hinfo : (P.info? e).map (fun i => (i.zero, i.size, i.bytes)) = some (some z, 1, bytes)) (hzs : z.cells.size = 1) (hb0 : 0 < bytes)
    {B : Nat} (p q : List Row) {ra : Option Addr} {n rc : Nat} {xs : List Value} {v1 v2 : Value} (s x : Operand) (w0 : World) (hw0 : w = w0.alloc (.cells #[v1, v2] e)) (sz : Nat) (hsz : w0.heap.size = sz) (hgd : o.guard = none)
    (ho : o.op = .call { callee := .builtin .append, args := #[s, x], argTypes := #[t, t] })
    (hs : a.eval s = .slice ra n rc) (hx : a.eval x = .slice (some ⟨sz, 0, none⟩) 2 2) (hown : Owns w0 B (p ++ ⟨e, ra, n, rc, xs⟩ :: q)) (hv1 : v1.oneCell' = true) (hv2 : v2.oneCell' = true)
    (hbytes : (n + 2) * bytes ≤ 140737488355328) (hB : B ≤ sz)
    (h : ∀ a' c' w', Owns w' B (p ++ ⟨e, a', n + 2, c', xs ++ [v1, v2]⟩ :: q) → Below B w0 w' → sz ≤ w'.heap.size → K (a.put o.dst (.slice a' (n + 2) c')) w') :
    if Region.wanted o (yielded ops a.tmps) = true then Oper.wp P o a w K Q else E := by
  have hw : Region.wanted o (yielded ops a.tmps) = true := by simp [Region.wanted, hgd]
  rw [if_pos hw]
  subst hw0 hsz
  obtain ⟨i, hi, hz, hsz, hby⟩ := info_parts hinfo
  have hown' := hown.alloc (.cells #[v1, v2] e)
  have hr := hown'.1 ⟨e, ra, n, rc, xs⟩ (by simp)
  obtain ⟨a', c', w', hrun, h2, h3, h4⟩ := run_append_at (P := P) (w0.alloc (.cells #[v1, v2] e)) B t o.type e i z bytes ht hi hz hsz hby hzs ⟨e, ra, n, rc, xs⟩ rfl hr (some ⟨w0.heap.size, 0, none⟩) 2 2 [v1, v2] rfl (by simp) (two_rd _ _ _ _) (by simp [hv1, hv2]) hbytes hb0 (by simp; omega)
  unfold Oper.wp execOp
  simp only [Row.val] at hrun
  simp only [ho, resolve, invoke, builtin, Sem.run_bind, Sem.run_pure, Result.andThen_ok, List.map_toArray, List.map_cons, List.map_nil, hs, hx, hrun]
  have hb : Below B (w0.alloc (.cells #[v1, v2] e)) w' := (Below.refl B _).grown h3 (by simp; omega) fun k hk => (hr.lt k hk).1
  refine h a' c' w' ?_ (((Below.refl B w0).alloc hB _).trans hb) (by have := hb.size; simp at this; omega)
  exact Owns.turn (r' := ⟨e, a', n + 2, c', xs ++ [v1, v2]⟩) hown' h2 h3 h4
end

section
variable {w : World} {ops : Array Oper} {rest : List Oper} {o : Oper} {a : Act} {Q : Exit → Act → World → Prop} {B : Nat} (p q : List Row) {ra : Option Addr} {n rc : Nat} {xs : List Value} {v1 v2 : Value} (s x : Operand)
theorem app32d (hgd : o.guard = none) (ho : o.op = .call { callee := .builtin .append, args := #[s, x], argTypes := #[27, 27] }) (sz : Nat) (hsz : w.heap.size = sz) (hs : a.eval s = .slice ra n rc) (hx : a.eval x = .slice (some ⟨sz, 0, none⟩) 2 2)
    (hown : Owns w B (p ++ ⟨29, ra, n, rc, xs⟩ :: q)) (hv1 : v1.oneCell' = true) (hv2 : v2.oneCell' = true) (hn : n < 17592186043904) (hB : B ≤ sz)
    (h : ∀ a' c' w', Owns w' B (p ++ ⟨29, a', n + 2, c', xs ++ [v1, v2]⟩ :: q) → Below B w w' → sz ≤ w'.heap.size → wpList Try.prog ops Q rest (a.put o.dst (.slice a' (n + 2) c')) w') :
    wpList Try.prog ops Q (o :: rest) a (w.alloc (.cells #[v1, v2] 29)) := by
  obtain ⟨i0, hi, hz0, hz1, hz2⟩ := info_parts info32
  subst hsz
  refine wpList_append_at _ hgd s x 27 ho 29 i0 (.int .u32 0) 4 Try.underlying27 hi hz0 hz1 hz2 rfl (by decide) B p q ⟨29, ra, n, rc, xs⟩ rfl hs (hown.alloc _) (some ⟨w.heap.size, 0, none⟩) 2 2 [v1, v2] hx rfl (by simp) (two_rd _ _ _ _) (by simp [hv1, hv2]) (by show (n + 2) * 4 ≤ _; omega) (by simp; omega) ?_
  intro a' c' w' ho' hb'
  exact h a' c' w' ho' (((Below.refl B w).alloc hB _).trans hb') (by have := hb'.size; simp at this; omega)
end
end Go.Proofs.Ytjciefonlhhoaaa
