/-
  For the laws about OnceTree: the end of a slice, a list laid twice behind one another.
-/
import Derived.Test.YtjjmjjbeecmmladTreeFns
import Derived.Test.YtjjmjjbeecmmladTreePlain2
import Derived.Test.YtjjmjjbeecmmladFrame
namespace Go.Proofs.Ytjjmjjbeecmmlad
set_option linter.unusedVariables false
set_option linter.unusedSimpArgs false
open Go.RowKit

/-- The end of a slice. -/
theorem slice_from {P : Program} {t e : TypeId} (ht : P.underlying t = some (.slice e)) (hz : ∀ w : World, (sizeOf e).run P w = .ok 1 w) (a : Option Addr) (n c lo : Nat) (h1 : lo ≤ n) (h2 : n ≤ c) :
    ∃ A, (∀ w : World, (Instr.slice t (.slice a n c) (some (.int .i64 (lo : Int))) none none).run P w = .ok (.slice A (n - lo) (c - lo)) w) ∧
      ∀ (w : World) (xs : List Value), Rd w a xs → xs.length ≤ n → Rd w A (xs.drop lo) := by
  have he : P.elem t = e := by simp [Program.elem, ht]
  refine ⟨if c = lo then a else a.map (·.add lo), ?_, ?_⟩
  · intro w
    rw [run_slice_l (P := P) w t a n c (by rw [he]; exact ht) .i64 (lo : Int) (by omega) (by omega), he, hz]
    simp only [Result.andThen_ok, sliced, Int.toNat_natCast, Nat.mul_one]
  · intro w xs hr hl i hi
    simp only [List.length_drop] at hi
    have hk : lo + i < xs.length := by omega
    obtain ⟨b, off, ha, hc⟩ := hr (lo + i) hk
    rw [if_neg (by omega), ha]
    refine ⟨b, off + lo, by simp [Addr.add_lit], ?_⟩
    rw [Nat.add_assoc, hc, List.getElem?_drop]

theorem NI_one {xs : List Nat} : ∀ v ∈ NI xs, v.oneCell' = true := by
  intro v hv
  obtain ⟨x, _, rfl⟩ := List.mem_map.1 hv
  rfl

theorem Laid.made {w : World} {B n c0 : Nat} {ps : Nat → List Nat} {a0 : Option Addr} {X : List Row} (h : Laid w B ps n a0 c0 X) (hB : B ≤ w.heap.size) (e : TypeId) (cs : Array Value) (hm : cs.size ≤ maxLen) :
    Laid (w.alloc (.cells cs e)) B ps n a0 c0 (X ++ [⟨e, some ⟨w.heap.size, 0, none⟩, cs.size, cs.size, cs.toList⟩]) := by
  obtain ⟨R, hi, ho⟩ := h
  exact ⟨R, hi, by rw [← List.append_assoc]; exact ho.made hB e cs hm⟩

/-- A list of numbers laid behind the last row. -/
theorem laid_append {w : World} {B N c0 : Nat} {ps : Nat → List Nat} {a0 : Option Addr} {X : List Row} {ops : Array Oper} {rest : List Oper} {o : Oper} {a : Act} {Q : Exit → Act → World → Prop} (hgd : o.guard = none) (s x : Operand)
    (ho : o.op = .call { callee := .builtin .append, args := #[s, x], argTypes := #[28, 28] }) {ra ao : Option Addr} {n rc m c : Nat} {xs news : List Nat} (hs : a.eval s = .slice ra n rc) (hx : a.eval x = .slice ao m c)
    (h0 : Laid w B ps N a0 c0 (X ++ [⟨3, ra, n, rc, NI xs⟩])) (hl : news.length = m) (hao : ao = none → m = 0 ∧ c = 0) (hnews : Rd w ao (NI news)) (hb : n + m ≤ 17592186043904) (hB : B ≤ w.heap.size)
    (h : ∀ a' c' w', Laid w' B ps N a0 c0 (X ++ [⟨3, a', n + m, c', NI (xs ++ news)⟩]) → Below B w w' → wpList Try.prog ops Q rest (a.put o.dst (.slice a' (n + m) c')) w') : wpList Try.prog ops Q (o :: rest) a w := by
  obtain ⟨i0, hi, hz0, hz1, hz2⟩ := info_parts info3
  obtain ⟨R, hin, hown⟩ := h0
  rw [← List.append_assoc] at hown
  refine wpList_append_at w hgd s x 28 ho 3 i0 (.int .i64 0) 8 Try.underlying28 hi hz0 hz1 hz2 rfl (by decide) B _ [] ⟨3, ra, n, rc, NI xs⟩ rfl hs hown ao m c (NI news) hx (by simp [hl]) hao hnews NI_one (by simp; omega) hB ?_
  intro a' c' w' ho' hb'
  refine h a' c' w' ⟨R, hin, ?_⟩ hb'
  rw [← List.append_assoc, NI, List.map_append]
  exact ho'

theorem tree_laid {w : World} {B n c0 : Nat} {links : List (BitVec 8)} {a0 : Option Addr} {X : List Row} (h : Laid w B (parOf links) n a0 c0 X) (i j : Nat) {a1 a2 : Option Addr} {c1 m c2 : Nat} {ownL : List (BitVec 64)} {calls : List Nat} {RA : List (BitVec 64)} {S : List Nat × List (BitVec 64)}
    (hi : X[i]? = some ⟨25, a1, n, c1, U ownL⟩) (hj : X[j]? = some ⟨3, a2, m, c2, NI calls⟩) (hn : n ≤ 1048576) (hm : m ≤ 17592186043904) (hcn : ∀ i ∈ calls, i < n)
    (hR : calls.map (val (parOf links) fun i => ownL.getD i 0) = RA) (hS : allRun (parOf links) n calls = S) :
    Calls Try.prog 12 #[.slice a0 n c0, .slice a1 n c1, .slice a2 m c2] w (TreeRan w n m RA S) := by
  have := laid_tree h i j hi hj hn hm hcn
  rw [hR] at this
  unfold allRun at hS
  rw [hS] at this
  exact this
/-- The same, with the calls read from elsewhere. -/
theorem tree_read {w : World} {B n c0 : Nat} {links : List (BitVec 8)} {a0 : Option Addr} {X : List Row} (h : Laid w B (parOf links) n a0 c0 X) (i : Nat) {a1 a2 : Option Addr} {c1 m c2 : Nat} {ownL : List (BitVec 64)} {calls : List Nat} {RA : List (BitVec 64)} {S : List Nat × List (BitVec 64)}
    (hi : X[i]? = some ⟨25, a1, n, c1, U ownL⟩) (hj : Rd w a2 (NI calls)) (hl : calls.length = m) (hn : n ≤ 1048576) (hm : m ≤ 17592186043904) (hcn : ∀ i ∈ calls, i < n)
    (hR : calls.map (val (parOf links) fun i => ownL.getD i 0) = RA) (hS : allRun (parOf links) n calls = S) :
    Calls Try.prog 12 #[.slice a0 n c0, .slice a1 n c1, .slice a2 m c2] w (TreeRan w n m RA S) := by
  have := onceTree_any w a0 a1 a2 n n c0 c1 m c2 (parOf links) ownL calls hn (Nat.le_refl _) (by omega) (by simpa using h.owns.len i hi) (h.rdAt i hi) (fun i p hp => parOf_less p hp) (h.par fun i => parOf_length) hl hm hj hcn
  rw [hR] at this
  unfold allRun at hS
  rw [hS] at this
  exact this
end Go.Proofs.Ytjjmjjbeecmmlad
