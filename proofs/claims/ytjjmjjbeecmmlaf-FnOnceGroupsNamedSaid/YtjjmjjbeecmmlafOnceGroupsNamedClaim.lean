/-
  'FnOnceGroupsNamed' returns true for every input. Conditions: none but the form's own reach.
-/
import Derived.Test.YtjjmjjbeecmmlafOnceGroupsNamed
import Derived.Test.YtjjmjjbeecmmlafFrame
namespace Go.Proofs.Ytjjmjjbeecmmlaf.fnOnceGroupsNamed
set_option linter.unusedVariables false
set_option linter.unusedSimpArgs false
open Go.ChangeShapes Go.WideShapes Go.ChangeAt Go.RowKit

set_option maxRecDepth 100000 in
theorem lifted (os : Os) (started : os.Started) (H : Type) (enc : TypeId × Value → H) :
    ReturnsInHanded {} Try.checked os 5 .any (Rows.fnOnceGroupsNamedSpec.pre6 enc Try.prog Try.f5 Rows.fnOnceGroupsNamedRow.domain false) (Rows.fnOnceGroupsNamedSpec.post enc Try.prog Try.f5 false true false false) := by
  refine returnsInHanded_of_change_sized (C := Try.checked) own started (by kernel_rfl) Try.func5
    (ChangeSpec.witness6 (enc := enc) (C := Try.checked) false ⟨#[], #[.slice none 0 0, .slice none 0 0, .int .i8 0], []⟩ 8 (by kernel_rfl) (by kernel_rfl) (by kernel_rfl) (by kernel_rfl)) ?_
  intro W base args ds gs before hval0 hW hcnd hsz _
  have hval : ∀ (j : Nat) t v, Try.f5.params[j]? = some t → args[j]? = some v → Value.okWide Try.prog W .any base t v := hval0
  have hW' := hW
  obtain ⟨p, q, hA0, hV, rfl, hfz, hnd⟩ := hW
  have hA : DataW.TrodAll enc Try.prog W 0 (fun _ => true) true Try.f5.params.toList args.toList ds p := hA0
  rw [Try.params5] at hA hval
  have hsz2 : (DataW.weightsEach Try.prog (Try.f5.params.toList ++ (Rows.fnOnceGroupsNamedSpec).plain.varTypes Try.prog) (ds ++ gs)).all (· ≤ reachBytes) = true := hsz
  rw [Try.params5] at hsz2
  obtain ⟨v0, vs0, d0, ds0, p0, q0, hargs, rfl, rfl, h0, r0⟩ := trodAll_cons hA
  obtain ⟨v1, vs1, d1, ds1, p1, q1, rfl, rfl, rfl, h1, r1⟩ := trodAll_cons r0
  obtain ⟨v2, vs2, d2, ds2, p2, q2, rfl, rfl, rfl, h2, r2⟩ := trodAll_cons r1
  obtain ⟨rfl, rfl, rfl⟩ := trodAll_nil r2
  obtain rfl : args = #[v0, v1, v2] := by cases args; simp_all
  obtain ⟨rfl, rfl⟩ := trodVars_none hV
  obtain ⟨a0, n0, c0, rfl⟩ := okWide_slice Try.underlying22 (hval 0 22 v0 rfl rfl)
  have lt0 : ∀ x ∈ p0, x.block < W.heap.size := by obtain ⟨m, hm⟩ := h0; exact DataW.trod_lt m _ _ _ hm
  obtain ⟨z0, zl0, k0, wz0, bk0, el0⟩ := came_of Try.underlying22 Try.underlying37 (by kernel_rfl) h0
  obtain ⟨x0, ex0⟩ := i8s wz0
  rw [ex0] at k0
  have bd0 : n0 * 1 ≤ 140737488351232 := came_reach hsz2 (j := 0) rfl rfl Try.underlying22 (by kernel_rfl) el0
  obtain ⟨a1, n1, c1, rfl⟩ := okWide_slice Try.underlying23 (hval 1 23 v1 rfl rfl)
  have lt1 : ∀ x ∈ p1, x.block < W.heap.size := by obtain ⟨m, hm⟩ := h1; exact DataW.trod_lt m _ _ _ hm
  obtain ⟨z1, zl1, k1, wz1, bk1, el1⟩ := came_of Try.underlying23 Try.underlying36 (by kernel_rfl) h1
  obtain ⟨x1, ex1⟩ := u64s wz1
  rw [ex1] at k1
  have bd1 : n1 * 8 ≤ 140737488351232 := came_reach hsz2 (j := 1) rfl rfl Try.underlying23 (by kernel_rfl) el1
  obtain ⟨y2, rfl, rfl, rfl, w2⟩ := open_int Try.underlying37 (hval 2 37 v2 rfl rfl) h2
  obtain ⟨x2, rfl⟩ := i8n w2
  clear hA0 hval0
  refine (fnOnceGroupsNamed_any W a0 n0 c0 x0 k0 a1 n1 c1 x1 k1 x2 bd0 bd1).mono fun e W' ⟨he, bel⟩ => ?_
  subst he
  exact ⟨_, rfl, _, _, _, [], _, [], hW', trodAll_mk1 (shut_bool Try.underlying4 _), (trodAll_cons_mk (Below.trod laidOut (by kernel_rfl) (of_decide_eq_true (by kernel_rfl)) h0 bel lt0) (trodAll_cons_mk (Below.trod laidOut (by kernel_rfl) (of_decide_eq_true (by kernel_rfl)) h1 bel lt1) (trodAll_cons_mk (shut_int Try.underlying37 w2) trodAll_mk0))), rfl, bel.frame _, fun h => by cases h⟩

theorem proved : Rows.FnOnceGroupsNamedSaid :=
  OpenClaim.holds_of_wide 5 Try.f5 rfl rfl rfl rfl rfl rfl rfl ⟨rfl, rfl, rfl, rfl, rfl⟩ rfl rfl rfl rfl rfl (by kernel_rfl) Try.func5 (by kernel_rfl)
    (of_decide_eq_true (by kernel_rfl)) (by unfold Func.isWrapper; first | (rw [if_pos (by decide +kernel)]; kernel_rfl) | (rw [if_neg (by decide +kernel)]; exact ⟨rfl, rfl⟩))
    (fun os started H enc _ => lifted os started H enc)
#print axioms proved
end Go.Proofs.Ytjjmjjbeecmmlaf.fnOnceGroupsNamed
