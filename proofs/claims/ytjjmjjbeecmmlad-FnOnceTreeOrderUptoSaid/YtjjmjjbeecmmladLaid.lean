/-
  The parents of the nodes, laid beside other rows of the call's own.
-/
import Derived.Test.YtjjmjjbeecmmladOParents
import Derived.Test.YtjjmjjbeecmmladTreeMake
namespace Go.Proofs.Ytjjmjjbeecmmlad
set_option linter.unusedVariables false
set_option linter.unusedSimpArgs false
open Go.RowKit

def Laid (w : World) (B : Nat) (ps : Nat → List Nat) (n : Nat) (a0 : Option Addr) (c0 : Nat) (X : List Row) : Prop :=
  ∃ R, Inner ps R n ∧ Owns w B ((⟨28, a0, n, c0, R.map Row.val⟩ :: R) ++ X)

section
variable {w w1 w2 : World} {B n c0 : Nat} {ps : Nat → List Nat} {a0 : Option Addr} {X Y : List Row}
theorem Laid.more (h : Laid w1 B ps n a0 c0 X) (hb : Below w1.heap.size w1 w2) (h' : Owns w2 w1.heap.size Y) (hB : B ≤ w1.heap.size) : Laid w2 B ps n a0 c0 (X ++ Y) := by
  obtain ⟨R, hi, ho⟩ := h
  exact ⟨R, hi, by rw [← List.append_assoc]; exact ho.more hb h' hB⟩
theorem Laid.mono (h : Laid w1 B ps n a0 c0 X) {B' : Nat} (hb : Below B' w1 w2) (hB : w1.heap.size ≤ B') : Laid w2 B ps n a0 c0 X := by
  obtain ⟨R, hi, ho⟩ := h
  exact ⟨R, hi, ho.mono hb hB⟩
theorem Laid.owns (h : Laid w B ps n a0 c0 X) : Owns w B X := by
  obtain ⟨R, hi, ho⟩ := h
  exact ho.drop (List.sublist_append_right _ _)
theorem Laid.rdAt (h : Laid w B ps n a0 c0 X) (i : Nat) {r : Row} (hi : X[i]? = some r) : Rd w r.a r.xs := h.owns.rdAt i hi
theorem Laid.par (h : Laid w B ps n a0 c0 X) (h2 : ∀ i, (ps i).length ≤ 2) : ∀ i, i < n → ∃ b o pa pc, a0 = some ⟨b, o, none⟩ ∧ b < w.heap.size ∧ w.cell? ⟨b, o + i, none⟩ = some (.slice pa (ps i).length pc) ∧ Rd w pa (NI (ps i)) ∧ (ps i).length ≤ 1048576 := by
  intro i hi
  obtain ⟨R, ⟨hl, hR⟩, ho⟩ := h
  have li : i < R.length := by omega
  obtain ⟨he, hn, hx⟩ := hR i li
  obtain ⟨b, rfl, hc, _⟩ := ho.cellAt 0 rfl (j := i) (by simpa using li)
  refine ⟨b, 0, R[i].a, R[i].c, rfl, ?_, ?_, ?_, by have := h2 i; omega⟩
  · exact ((ho.rd (List.mem_of_getElem? (i := 0) rfl)).2.2 b 0 rfl).2.2.1
  · rw [Nat.zero_add, hc]
    simp [li, Row.val, hn]
  · rw [← hx]
    exact (ho.rd (r := R[i]) (by simp)).1
theorem Laid.of (h : Owns w1 B X) (hi : ∃ R, Inner ps R n ∧ Owns w2 w1.heap.size (⟨28, a0, n, c0, R.map Row.val⟩ :: R)) (hb : Below w1.heap.size w1 w2) (hB : B ≤ w1.heap.size) : Laid w2 B ps n a0 c0 X := by
  obtain ⟨R, hi, ho⟩ := hi
  exact ⟨R, hi, (h.more hb ho hB).perm List.perm_append_comm⟩
end

/-- A call of OnceTree with rows that lie there. -/
theorem laid_tree {w : World} {B n c0 : Nat} {links : List (BitVec 8)} {a0 : Option Addr} {X : List Row} (h : Laid w B (parOf links) n a0 c0 X) (i j : Nat) {a1 a2 : Option Addr} {c1 m c2 : Nat} {ownL : List (BitVec 64)} {calls : List Nat}
    (hi : X[i]? = some ⟨25, a1, n, c1, U ownL⟩) (hj : X[j]? = some ⟨3, a2, m, c2, NI calls⟩) (hn : n ≤ 1048576) (hm : m ≤ 17592186043904) (hcn : ∀ i ∈ calls, i < n) :
    Calls Try.prog 12 #[.slice a0 n c0, .slice a1 n c1, .slice a2 m c2] w (TreeRan w n m (calls.map (val (parOf links) fun i => ownL.getD i 0)) (calls.foldl (fun s i => runF (parOf links) n i s) ([], List.replicate n 0))) :=
  onceTree_any w a0 a1 a2 n n c0 c1 m c2 (parOf links) ownL calls hn (Nat.le_refl _) (by omega) (by simpa using h.owns.len i hi) (h.rdAt i hi) (fun i p hp => parOf_less p hp) (h.par fun i => parOf_length) (by simpa using h.owns.len j hj) hm (h.rdAt j hj) hcn
end Go.Proofs.Ytjjmjjbeecmmlad
