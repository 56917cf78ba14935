/-
  Reading cells of rows of the call's own; appends told with the world's size; small facts on lists of calls.
-/
import Derived.Test.YtjciefonlhhoaaaScript
namespace Go.Proofs.Ytjciefonlhhoaaa
set_option linter.unusedVariables false
set_option linter.unusedSimpArgs false
open Go.RowKit

section
variable {w : World} {B : Nat} {L : List Row} {e : TypeId} {a : Option Addr} {n c b k : Nat}

theorem Owns.addr {xs : List Value} (h : Owns w B L) (i : Nat) (hi : L[i]? = some ⟨e, a, n, c, xs⟩) (hk : k < xs.length) : ∃ b, a = some ⟨b, 0, none⟩ := by
  obtain ⟨b, hb, _⟩ := h.cellAt i hi hk
  exact ⟨b, hb⟩
theorem Owns.get64 {xs : List (BitVec 64)} (h : Owns w B L) (i : Nat) (hi : L[i]? = some ⟨e, some ⟨b, 0, none⟩, n, c, U xs⟩) (hk : k < xs.length) : w.cell? ⟨b, k, none⟩ = some (.int .u64 (xs[k].toNat : Int)) := by
  obtain ⟨b', hb, hc, _⟩ := h.cellAt i hi (j := k) (by simpa using hk)
  simp only [Option.some.injEq, Addr.mk.injEq, and_true] at hb
  subst hb
  rw [hc, U_get hk]
theorem Owns.get8 {xs : List (BitVec 8)} (h : Owns w B L) (i : Nat) (hi : L[i]? = some ⟨e, some ⟨b, 0, none⟩, n, c, U8 xs⟩) (hk : k < xs.length) : w.cell? ⟨b, k, none⟩ = some (.int .u8 (xs[k].toNat : Int)) := by
  obtain ⟨b', hb, hc, _⟩ := h.cellAt i hi (j := k) (by simpa using hk)
  simp only [Option.some.injEq, Addr.mk.injEq, and_true] at hb
  subst hb
  rw [hc, U8_get hk]
theorem Owns.getI {xs : List Nat} (h : Owns w B L) (i : Nat) (hi : L[i]? = some ⟨e, some ⟨b, 0, none⟩, n, c, NI xs⟩) (hk : k < xs.length) : w.cell? ⟨b, k, none⟩ = some (.int .i64 (xs[k] : Int)) := by
  obtain ⟨b', hb, hc, _⟩ := h.cellAt i hi (j := k) (by simpa using hk)
  simp only [Option.some.injEq, Addr.mk.injEq, and_true] at hb
  subst hb
  rw [hc, NI_get hk]
theorem Owns.free {xs : List Value} (h : Owns w B L) (i : Nat) (hi : L[i]? = some ⟨e, some ⟨b, 0, none⟩, n, c, xs⟩) (k : Nat) : w.frozen? ⟨b, k, none⟩ = false :=
  ((h.rd (List.mem_of_getElem? hi)).2.2 b 0 rfl).2.2.2 k
theorem Owns.len {xs : List Value} (h : Owns w B L) (i : Nat) (hi : L[i]? = some ⟨e, a, n, c, xs⟩) : xs.length = n := (h.rd (List.mem_of_getElem? hi)).2.1
end

section
variable {w : World} {ops : Array Oper} {rest : List Oper} {o : Oper} {a : Act} {Q : Exit → Act → World → Prop} {B : Nat} (p q : List Row) {ra : Option Addr} {n rc : Nat} {xs : List Value} {v : Value} (s x : Operand)
theorem app5s (hgd : o.guard = none) (ho : o.op = .call { callee := .builtin .append, args := #[s, x], argTypes := #[23, 23] }) (sz : Nat) (hsz : w.heap.size = sz) (hs : a.eval s = .slice ra n rc) (hx : a.eval x = .slice (some ⟨sz, 0, none⟩) 1 1)
    (hown : Owns w B (p ++ ⟨5, ra, n, rc, xs⟩ :: q)) (hv : v.oneCell' = true) (hn : n < 17592186043904) (hB : B ≤ sz)
    (h : ∀ a' c' w', Owns w' B (p ++ ⟨5, a', n + 1, c', xs ++ [v]⟩ :: q) → Below B w w' → sz ≤ w'.heap.size → wpList Try.prog ops Q rest (a.put o.dst (.slice a' (n + 1) c')) w') :
    wpList Try.prog ops Q (o :: rest) a (w.alloc (.cells #[v] 5)) :=
  wpList_append1s Try.underlying23 info5 rfl (by decide) p q s x sz hsz hgd ho hs hx hown hv (by omega) hB h
end

section
variable {n : Nat} {sc : List (Call n)} {k : Nat}
@[simp] theorem kindsOf_length : (kindsOf sc).length = sc.length := by simp [kindsOf]
@[simp] theorem cellsOf_length : (cellsOf sc).length = sc.length := by simp [cellsOf]
@[simp] theorem asOf_length : (asOf sc).length = sc.length := by simp [asOf]
@[simp] theorem bsOf_length : (bsOf sc).length = sc.length := by simp [bsOf]
theorem kindsOf_get (h : k < (kindsOf sc).length) : (kindsOf sc)[k] = (sc[k]'(by simpa using h)).kind := by simp [kindsOf]
theorem cellsOf_get (h : k < (cellsOf sc).length) : (cellsOf sc)[k] = (sc[k]'(by simpa using h)).cell := by simp [cellsOf]
theorem asOf_get (h : k < (asOf sc).length) : (asOf sc)[k] = (sc[k]'(by simpa using h)).a := by simp [asOf]
theorem bsOf_get (h : k < (bsOf sc).length) : (bsOf sc)[k] = (sc[k]'(by simpa using h)).b := by simp [bsOf]
end

/-- A call's parts, read off the script's four rows. -/
theorem Owns.call {w : World} {B : Nat} {L : List Row} (h : Owns w B L) {sc : List (Call 64)} {k b0 b1 b2 b3 m : Nat} {c0 c1 c2 c3 i : Nat} {e0 e1 e2 e3 : TypeId}
    (h0 : L[i]? = some ⟨e0, some ⟨b0, 0, none⟩, m, c0, U8 (kindsOf sc)⟩) (h1 : L[i + 1]? = some ⟨e1, some ⟨b1, 0, none⟩, m, c1, NI (cellsOf sc)⟩) (h2 : L[i + 2]? = some ⟨e2, some ⟨b2, 0, none⟩, m, c2, U (asOf sc)⟩) (h3 : L[i + 3]? = some ⟨e3, some ⟨b3, 0, none⟩, m, c3, U (bsOf sc)⟩)
    {κ : BitVec 8} {cl : Nat} {x y : BitVec 64} (hk : k < sc.length) (hc : sc[k] = ⟨κ, cl, x, y⟩) :
    w.cell? ⟨b0, k, none⟩ = some (.int .u8 (κ.toNat : Int)) ∧ w.cell? ⟨b1, k, none⟩ = some (.int .i64 (cl : Int)) ∧ w.cell? ⟨b2, k, none⟩ = some (.int .u64 (x.toNat : Int)) ∧ w.cell? ⟨b3, k, none⟩ = some (.int .u64 (y.toNat : Int)) := by
  have g0 := h.get8 _ h0 (k := k) (by simpa using hk)
  have g1 := h.getI _ h1 (k := k) (by simpa using hk)
  have g2 := h.get64 _ h2 (k := k) (by simpa using hk)
  have g3 := h.get64 _ h3 (k := k) (by simpa using hk)
  rw [kindsOf_get, hc] at g0
  rw [cellsOf_get, hc] at g1
  rw [asOf_get, hc] at g2
  rw [bsOf_get, hc] at g3
  exact ⟨g0, g1, g2, g3⟩

/-- The four rows lie somewhere. -/
theorem Owns.calls {w : World} {B : Nat} {L : List Row} (h : Owns w B L) {sc : List (Call 64)} {k m : Nat} {a0 a1 a2 a3 : Option Addr} {c0 c1 c2 c3 i : Nat} {e0 e1 e2 e3 : TypeId}
    (h0 : L[i]? = some ⟨e0, a0, m, c0, U8 (kindsOf sc)⟩) (h1 : L[i + 1]? = some ⟨e1, a1, m, c1, NI (cellsOf sc)⟩) (h2 : L[i + 2]? = some ⟨e2, a2, m, c2, U (asOf sc)⟩) (h3 : L[i + 3]? = some ⟨e3, a3, m, c3, U (bsOf sc)⟩) (hk : k < sc.length) :
    ∃ b0 b1 b2 b3, a0 = some ⟨b0, 0, none⟩ ∧ a1 = some ⟨b1, 0, none⟩ ∧ a2 = some ⟨b2, 0, none⟩ ∧ a3 = some ⟨b3, 0, none⟩ := by
  obtain ⟨b0, g0⟩ := h.addr (k := k) i h0 (by simpa using hk)
  obtain ⟨b1, g1⟩ := h.addr (k := k) _ h1 (by simpa using hk)
  obtain ⟨b2, g2⟩ := h.addr (k := k) _ h2 (by simpa using hk)
  obtain ⟨b3, g3⟩ := h.addr (k := k) _ h3 (by simpa using hk)
  exact ⟨b0, b1, b2, b3, g0, g1, g2, g3⟩

theorem script_any (w : World) (a0 a1 : Option Addr) (c0 c1 n m l : Nat) (codes : List (BitVec 8)) (words : List (BitVec 64)) (sc : List (Call 64)) (hsc : scriptOf codes words n = sc) (hcs : codes.length = m) (hws : words.length = l)
    (r0 : Rd w a0 (U8 codes)) (r1 : Rd w a1 (U words)) (bn : n ≤ 17592186043904) (bn0 : 0 < n) (bm : m ≤ 17592186043904) (bl : l ≤ 17592186043904) :
    Calls Try.prog 4 #[.slice a0 m c0, .slice a1 l c1, .int .i64 n] w (Four w m sc) := by
  subst hsc
  exact scriptOf_any w a0 a1 c0 c1 n m l codes words hcs hws r0 r1 bn bn0 bm bl

theorem below_made {w w0 : World} {B : Nat} (h : Below B w w0) (hB : B ≤ w0.heap.size) (o : Obj) : Below B w (w0.alloc o) ∧ B ≤ (w0.alloc o).heap.size := ⟨h.alloc hB o, by simp; omega⟩
end Go.Proofs.Ytjciefonlhhoaaa
