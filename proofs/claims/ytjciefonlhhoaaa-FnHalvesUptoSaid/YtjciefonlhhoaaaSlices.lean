/-
  Parts of slices: what 's[lo:hi]' is, and what can be read there.
-/
import Derived.Test.YtjciefonlhhoaaaOwn
namespace Go.Proofs.Ytjciefonlhhoaaa
set_option linter.unusedVariables false
set_option linter.unusedSimpArgs false
open Go.RowKit

theorem Owns.cap {w : World} {B : Nat} {L : List Row} {e : TypeId} {a : Option Addr} {n c : Nat} {xs : List Value} (h : Owns w B L) (i : Nat) (hi : L[i]? = some ⟨e, a, n, c, xs⟩) : n ≤ c ∧ c ≤ maxLen ∧ (a = none → n = 0 ∧ c = 0) := by
  have := (h.1 _ (List.mem_of_getElem? hi)).2
  simp only [Row.val] at this
  rcases this with ⟨hv, h0⟩ | ⟨g, cap, cur, hv, _, _, hc, hm, _⟩
  · simp only [Value.slice.injEq] at hv
    obtain ⟨rfl, rfl, rfl⟩ := hv
    exact ⟨Nat.le_refl _, by simp, fun _ => ⟨rfl, rfl⟩⟩
  · simp only [Value.slice.injEq, true_and] at hv
    obtain ⟨rfl, rfl⟩ := hv
    exact ⟨hc, hm, by simp⟩

/-- A part of a slice. -/
theorem slice_part {P : Program} {t e : TypeId} (ht : P.underlying t = some (.slice e)) (hz : ∀ w : World, (sizeOf e).run P w = .ok 1 w) (a : Option Addr) (n c lo hi : Nat) (h1 : lo ≤ hi) (h2 : hi ≤ c) :
    ∃ A, (∀ w : World, (Instr.slice t (.slice a n c) (some (.int .i64 (lo : Int))) (some (.int .i64 (hi : Int))) none).run P w = .ok (.slice A (hi - lo) (c - lo)) w) ∧
      ∀ (w : World) (xs : List Value), Rd w a xs → hi ≤ xs.length → Rd w A ((xs.drop lo).take (hi - lo)) := by
  have he : P.elem t = e := by simp [Program.elem, ht]
  refine ⟨if c = lo then a else a.map (·.add lo), ?_, ?_⟩
  · intro w
    rw [run_slice_lh (P := P) w t a n c (by rw [he]; exact ht) .i64 .i64 (lo : Int) (hi : Int) (by omega) (by omega) (by omega), he, hz]
    simp only [Result.andThen_ok, sliced, Int.toNat_natCast, Nat.mul_one]
  · intro w xs hr hl
    intro i hi'
    simp only [List.length_take, List.length_drop] at hi'
    have hk : lo + i < xs.length := by omega
    obtain ⟨b, off, ha, hc⟩ := hr (lo + i) hk
    rw [if_neg (by omega), ha]
    refine ⟨b, off + lo, by simp [Addr.add_lit], ?_⟩
    rw [Nat.add_assoc, hc]
    rw [List.getElem?_take, if_pos (by omega), List.getElem?_drop]
end Go.Proofs.Ytjciefonlhhoaaa
