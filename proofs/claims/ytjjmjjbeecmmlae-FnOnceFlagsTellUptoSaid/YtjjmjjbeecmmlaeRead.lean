/-
  Reading cells of rows of the call's own and of arguments (for the seats without scripts).
-/
import Derived.Test.YtjjmjjbeecmmlaeAtom
namespace Go.Proofs.Ytjjmjjbeecmmlae
set_option linter.unusedVariables false
set_option linter.unusedSimpArgs false
open Go.RowKit

section
variable {w : World} {B : Nat} {L : List Row} {e : TypeId} {a : Option Addr} {n c b k : Nat}

theorem Owns.addr {xs : List Value} (h : Owns w B L) (i : Nat) (hi : L[i]? = some ⟨e, a, n, c, xs⟩) (hk : k < xs.length) : ∃ b, a = some ⟨b, 0, none⟩ := by
  obtain ⟨b, hb, _⟩ := h.cellAt i hi hk
  exact ⟨b, hb⟩
theorem Owns.get64 {xs : List (BitVec 64)} (h : Owns w B L) (i : Nat) (hi : L[i]? = some ⟨e, some ⟨b, 0, none⟩, n, c, U xs⟩) (hk : k < xs.length) : w.cell? ⟨b, k, none⟩ = some (.int .u64 (xs[k].toNat : Int)) := by
  obtain ⟨b', hb, hc, _⟩ := h.cellAt i hi (j := k) (by simpa using hk)
  simp only [Option.some.injEq, Addr.mk.injEq, and_true] at hb
  subst hb
  rw [hc, U_get hk]
theorem Owns.get8 {xs : List (BitVec 8)} (h : Owns w B L) (i : Nat) (hi : L[i]? = some ⟨e, some ⟨b, 0, none⟩, n, c, U8 xs⟩) (hk : k < xs.length) : w.cell? ⟨b, k, none⟩ = some (.int .u8 (xs[k].toNat : Int)) := by
  obtain ⟨b', hb, hc, _⟩ := h.cellAt i hi (j := k) (by simpa using hk)
  simp only [Option.some.injEq, Addr.mk.injEq, and_true] at hb
  subst hb
  rw [hc, U8_get hk]
theorem Owns.getI {xs : List Nat} (h : Owns w B L) (i : Nat) (hi : L[i]? = some ⟨e, some ⟨b, 0, none⟩, n, c, NI xs⟩) (hk : k < xs.length) : w.cell? ⟨b, k, none⟩ = some (.int .i64 (xs[k] : Int)) := by
  obtain ⟨b', hb, hc, _⟩ := h.cellAt i hi (j := k) (by simpa using hk)
  simp only [Option.some.injEq, Addr.mk.injEq, and_true] at hb
  subst hb
  rw [hc, NI_get hk]
theorem Owns.free {xs : List Value} (h : Owns w B L) (i : Nat) (hi : L[i]? = some ⟨e, some ⟨b, 0, none⟩, n, c, xs⟩) (k : Nat) : w.frozen? ⟨b, k, none⟩ = false :=
  ((h.rd (List.mem_of_getElem? hi)).2.2 b 0 rfl).2.2.2 k
theorem Owns.len {xs : List Value} (h : Owns w B L) (i : Nat) (hi : L[i]? = some ⟨e, a, n, c, xs⟩) : xs.length = n := (h.rd (List.mem_of_getElem? hi)).2.1
end

theorem at_u64 {w0 w : World} {B : Nat} {a : Option Addr} {xs : List (BitVec 64)} (h : Rd w0 a (U xs)) (hb : Below B w0 w) (hB : w0.heap.size ≤ B) {k : Nat} (hk : k < xs.length) :
    ∃ b off, a = some ⟨b, off, none⟩ ∧ w.cell? ⟨b, off + k, none⟩ = some (.int .u64 (xs[k].toNat : Int)) := by
  obtain ⟨b, off, he, hc⟩ := (h.mono hb hB) k (by simpa using hk)
  exact ⟨b, off, he, by rw [hc, U_get hk]⟩
theorem at_u8 {w0 w : World} {B : Nat} {a : Option Addr} {xs : List (BitVec 8)} (h : Rd w0 a (U8 xs)) (hb : Below B w0 w) (hB : w0.heap.size ≤ B) {k : Nat} (hk : k < xs.length) :
    ∃ b off, a = some ⟨b, off, none⟩ ∧ w.cell? ⟨b, off + k, none⟩ = some (.int .u8 (xs[k].toNat : Int)) := by
  obtain ⟨b, off, he, hc⟩ := (h.mono hb hB) k (by simpa using hk)
  exact ⟨b, off, he, by rw [hc, U8_get hk]⟩
theorem at_int {w0 w : World} {B : Nat} {a : Option Addr} {xs : List Nat} (h : Rd w0 a (NI xs)) (hb : Below B w0 w) (hB : w0.heap.size ≤ B) {k : Nat} (hk : k < xs.length) :
    ∃ b off, a = some ⟨b, off, none⟩ ∧ w.cell? ⟨b, off + k, none⟩ = some (.int .i64 (xs[k] : Int)) := by
  obtain ⟨b, off, he, hc⟩ := (h.mono hb hB) k (by simpa using hk)
  exact ⟨b, off, he, by rw [hc, NI_get hk]⟩

theorem Owns.drewN {w : World} {B : Nat} {L : List Row} (h : Owns w B L) (n : Nat) : Owns (w.drewN n) B L := by
  induction n with
  | zero => exact h
  | succ n ih => exact ih.drew

theorem Owns.has {w : World} {B : Nat} {L : List Row} {e : TypeId} {b n c k : Nat} {xs : List Value} (h : Owns w B L) (i : Nat) (hi : L[i]? = some ⟨e, some ⟨b, 0, none⟩, n, c, xs⟩) (hk : k < xs.length) : ∃ u, w.cell? ⟨b, k, none⟩ = some u := by
  obtain ⟨b', hb, hc, _⟩ := h.cellAt i hi hk
  simp only [Option.some.injEq, Addr.mk.injEq, and_true] at hb
  subst hb
  exact ⟨_, by rw [hc, List.getElem?_eq_getElem hk]⟩

theorem Owns.cap {w : World} {B : Nat} {L : List Row} {e : TypeId} {a : Option Addr} {n c : Nat} {xs : List Value} (h : Owns w B L) (i : Nat) (hi : L[i]? = some ⟨e, a, n, c, xs⟩) : n ≤ c ∧ c ≤ maxLen ∧ (a = none → n = 0 ∧ c = 0) := by
  have := (h.1 _ (List.mem_of_getElem? hi)).2
  simp only [Row.val] at this
  rcases this with ⟨hv, h0⟩ | ⟨g, cap, cur, hv, _, _, hc, hm, _⟩
  · simp only [Value.slice.injEq] at hv
    obtain ⟨rfl, rfl, rfl⟩ := hv
    exact ⟨Nat.le_refl _, by simp, fun _ => ⟨rfl, rfl⟩⟩
  · simp only [Value.slice.injEq, true_and] at hv
    obtain ⟨rfl, rfl⟩ := hv
    exact ⟨hc, hm, by simp⟩

/-- A part of a slice. -/
theorem slice_part {P : Program} {t e : TypeId} (ht : P.underlying t = some (.slice e)) (hz : ∀ w : World, (sizeOf e).run P w = .ok 1 w) (a : Option Addr) (n c lo hi : Nat) (h1 : lo ≤ hi) (h2 : hi ≤ c) :
    ∃ A, (∀ w : World, (Instr.slice t (.slice a n c) (some (.int .i64 (lo : Int))) (some (.int .i64 (hi : Int))) none).run P w = .ok (.slice A (hi - lo) (c - lo)) w) ∧
      ∀ (w : World) (xs : List Value), Rd w a xs → hi ≤ xs.length → Rd w A ((xs.drop lo).take (hi - lo)) := by
  have he : P.elem t = e := by simp [Program.elem, ht]
  refine ⟨if c = lo then a else a.map (·.add lo), ?_, ?_⟩
  · intro w
    rw [run_slice_lh (P := P) w t a n c (by rw [he]; exact ht) .i64 .i64 (lo : Int) (hi : Int) (by omega) (by omega) (by omega), he, hz]
    simp only [Result.andThen_ok, sliced, Int.toNat_natCast, Nat.mul_one]
  · intro w xs hr hl
    intro i hi'
    simp only [List.length_take, List.length_drop] at hi'
    have hk : lo + i < xs.length := by omega
    obtain ⟨b, off, ha, hc⟩ := hr (lo + i) hk
    rw [if_neg (by omega), ha]
    refine ⟨b, off + lo, by simp [Addr.add_lit], ?_⟩
    rw [Nat.add_assoc, hc]
    rw [List.getElem?_take, if_pos (by omega), List.getElem?_drop]

theorem info5 : (Try.prog.info? 5).map (fun i => (i.zero, i.size, i.bytes)) = some (some (.int .u8 0), 1, 1) := by kernel_rfl
section
variable {w : World} {ops : Array Oper} {rest : List Oper} {o : Oper} {a : Act} {Q : Exit → Act → World → Prop} {B : Nat} (p q : List Row) {ra : Option Addr} {n rc : Nat} {xs : List Value} {v : Value} (s x : Operand)
theorem app5s (hgd : o.guard = none) (ho : o.op = .call { callee := .builtin .append, args := #[s, x], argTypes := #[22, 22] }) (sz : Nat) (hsz : w.heap.size = sz) (hs : a.eval s = .slice ra n rc) (hx : a.eval x = .slice (some ⟨sz, 0, none⟩) 1 1)
    (hown : Owns w B (p ++ ⟨5, ra, n, rc, xs⟩ :: q)) (hv : v.oneCell' = true) (hn : n < 17592186043904) (hB : B ≤ sz)
    (h : ∀ a' c' w', Owns w' B (p ++ ⟨5, a', n + 1, c', xs ++ [v]⟩ :: q) → Below B w w' → sz ≤ w'.heap.size → wpList Try.prog ops Q rest (a.put o.dst (.slice a' (n + 1) c')) w') :
    wpList Try.prog ops Q (o :: rest) a (w.alloc (.cells #[v] 5)) :=
  wpList_append1s Try.underlying22 info5 rfl (by decide) p q s x sz hsz hgd ho hs hx hown hv (by omega) hB h
end
end Go.Proofs.Ytjjmjjbeecmmlae
