/-
  Steps of a region that draws its order: a call that leaves the world as it is; 'out = append(out, x)', out a row of the call's own.
-/
import Derived.Test.YtjciefonlhhoaaaAtom
import Derived.Deep.RegionLaw
namespace Go.Proofs.Ytjciefonlhhoaaa
set_option linter.unusedVariables false
set_option linter.unusedSimpArgs false
open Go.RowKit

section
variable {P : Program} {ops : Array Oper} {o : Oper} {a : Act} {w : World} {K : Act → World → Prop} {Q : Exit → Act → World → Prop} {E : Prop}

theorem step_enter (hg : o.guard = none) {f : FuncId} {vs : Array Value} {v : Value} (hrun : (execOp a.eval o).run P w = .ok (.enter f vs) w) (hc : Calls P f vs w fun e w' => e = .returned v ∧ w = w') (hK : K (a.put o.dst v) w) :
    if Region.wanted o (yielded ops a.tmps) = true then Oper.wp P o a w K Q else E := by
  have hw : Region.wanted o (yielded ops a.tmps) = true := by simp [Region.wanted, hg]
  rw [if_pos hw]
  unfold Oper.wp
  rw [hrun, Oper.upon_enter]
  refine hc.mono ?_
  rintro e w' ⟨rfl, rfl⟩
  exact hK

theorem step_append1 {t e bytes : Nat} {z : Value} (ht : P.underlying t = some (.slice e))
    (hinfo : (P.info? e).map (fun i => (i.zero, i.size, i.bytes)) = some (some z, 1, bytes)) (hzs : z.cells.size = 1) (hb0 : 0 < bytes)
    {B : Nat} (p q : List Row) {ra : Option Addr} {n rc : Nat} {xs : List Value} {v : Value} (s x : Operand) (w0 : World) (hw0 : w = w0.alloc (.cells #[v] e)) (sz : Nat) (hsz : w0.heap.size = sz) (hgd : o.guard = none)
    (ho : o.op = .call { callee := .builtin .append, args := #[s, x], argTypes := #[t, t] })
    (hs : a.eval s = .slice ra n rc) (hx : a.eval x = .slice (some ⟨sz, 0, none⟩) 1 1) (hown : Owns w0 B (p ++ ⟨e, ra, n, rc, xs⟩ :: q)) (hv : v.oneCell' = true)
    (hbytes : (n + 1) * bytes ≤ 140737488355328) (hB : B ≤ sz)
    (h : ∀ a' c' w', Owns w' B (p ++ ⟨e, a', n + 1, c', xs ++ [v]⟩ :: q) → Below B w0 w' → sz ≤ w'.heap.size → K (a.put o.dst (.slice a' (n + 1) c')) w') :
    if Region.wanted o (yielded ops a.tmps) = true then Oper.wp P o a w K Q else E := by
  have hw : Region.wanted o (yielded ops a.tmps) = true := by simp [Region.wanted, hgd]
  rw [if_pos hw]
  subst hw0 hsz
  obtain ⟨i, hi, hz, hsz, hby⟩ := info_parts hinfo
  have hown' := hown.alloc (.cells #[v] e)
  have hr := hown'.1 ⟨e, ra, n, rc, xs⟩ (by simp)
  obtain ⟨a', c', w', hrun, h2, h3, h4⟩ := run_append_at (P := P) (w0.alloc (.cells #[v] e)) B t o.type e i z bytes ht hi hz hsz hby hzs ⟨e, ra, n, rc, xs⟩ rfl hr (some ⟨w0.heap.size, 0, none⟩) 1 1 [v] rfl (by simp) (Rd.one _ _ _) (by simpa using hv) hbytes hb0 (by simp; omega)
  unfold Oper.wp execOp
  simp only [Row.val] at hrun
  simp only [ho, resolve, invoke, builtin, Sem.run_bind, Sem.run_pure, Result.andThen_ok, List.map_toArray, List.map_cons, List.map_nil, hs, hx, hrun]
  have hb : Below B (w0.alloc (.cells #[v] e)) w' := (Below.refl B _).grown h3 (by simp; omega) fun k hk => (hr.lt k hk).1
  refine h a' c' w' ?_ (((Below.refl B w0).alloc hB _).trans hb) (by have := hb.size; simp at this; omega)
  exact Owns.turn (r' := ⟨e, a', n + 1, c', xs ++ [v]⟩) hown' h2 h3 h4
end
end Go.Proofs.Ytjciefonlhhoaaa
