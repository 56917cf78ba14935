/-
  Contracts of the methods of atomic.Uint64, of sameWords and of copied: what each does to the world.
-/
import Derived.Test.YtjciefonlhhoaaaProg
import Derived.Test.YtjciefonlhhoaaaPlain
namespace Go.Proofs.Ytjciefonlhhoaaa
set_option linter.unusedVariables false
set_option linter.unusedSimpArgs false
open Go.RowKit

theorem info30 : (Try.prog.info? 28).map (fun i => (i.zero, i.size, i.bytes)) = some (some (.int .u64 0), 1, 8) := by kernel_rfl
theorem info61 : (Try.prog.info? 43).map (fun i => (i.zero, i.size, i.bytes)) = some (some (.agg #[.int .u64 0]), 1, 8) := by kernel_rfl
theorem info3 : (Try.prog.info? 3).map (fun i => (i.zero, i.size, i.bytes)) = some (some (.int .i64 0), 1, 8) := by kernel_rfl

section
variable {w : World} {ops : Array Oper} {rest : List Oper} {o : Oper} {a : Act} {Q : Exit → Act → World → Prop} {B : Nat} (p q : List Row) {ra : Option Addr} {n rc : Nat} {xs : List Value} {v : Value} (s x : Operand)
theorem app30 (hgd : o.guard = none) (ho : o.op = .call { callee := .builtin .append, args := #[s, x], argTypes := #[22, 22] }) (hs : a.eval s = .slice ra n rc) (hx : a.eval x = .slice (some ⟨w.heap.size, 0, none⟩) 1 1)
    (hown : Owns w B (p ++ ⟨28, ra, n, rc, xs⟩ :: q)) (hv : v.oneCell' = true) (hn : n < 17592186043904) (hB : B ≤ w.heap.size)
    (h : ∀ a' c' w', Owns w' B (p ++ ⟨28, a', n + 1, c', xs ++ [v]⟩ :: q) → Below B w w' → w.heap.size ≤ w'.heap.size → wpList Try.prog ops Q rest (a.put o.dst (.slice a' (n + 1) c')) w') :
    wpList Try.prog ops Q (o :: rest) a (w.alloc (.cells #[v] 28)) :=
  wpList_append1 Try.underlying22 info30 rfl (by decide) p q s x hgd ho hs hx hown hv (by omega) hB h
theorem app30s (hgd : o.guard = none) (ho : o.op = .call { callee := .builtin .append, args := #[s, x], argTypes := #[22, 22] }) (sz : Nat) (hsz : w.heap.size = sz) (hs : a.eval s = .slice ra n rc) (hx : a.eval x = .slice (some ⟨sz, 0, none⟩) 1 1)
    (hown : Owns w B (p ++ ⟨28, ra, n, rc, xs⟩ :: q)) (hv : v.oneCell' = true) (hn : n < 17592186043904) (hB : B ≤ sz)
    (h : ∀ a' c' w', Owns w' B (p ++ ⟨28, a', n + 1, c', xs ++ [v]⟩ :: q) → Below B w w' → sz ≤ w'.heap.size → wpList Try.prog ops Q rest (a.put o.dst (.slice a' (n + 1) c')) w') :
    wpList Try.prog ops Q (o :: rest) a (w.alloc (.cells #[v] 28)) :=
  wpList_append1s Try.underlying22 info30 rfl (by decide) p q s x sz hsz hgd ho hs hx hown hv (by omega) hB h
theorem app3s (hgd : o.guard = none) (ho : o.op = .call { callee := .builtin .append, args := #[s, x], argTypes := #[24, 24] }) (sz : Nat) (hsz : w.heap.size = sz) (hs : a.eval s = .slice ra n rc) (hx : a.eval x = .slice (some ⟨sz, 0, none⟩) 1 1)
    (hown : Owns w B (p ++ ⟨3, ra, n, rc, xs⟩ :: q)) (hv : v.oneCell' = true) (hn : n < 17592186043904) (hB : B ≤ sz)
    (h : ∀ a' c' w', Owns w' B (p ++ ⟨3, a', n + 1, c', xs ++ [v]⟩ :: q) → Below B w w' → sz ≤ w'.heap.size → wpList Try.prog ops Q rest (a.put o.dst (.slice a' (n + 1) c')) w') :
    wpList Try.prog ops Q (o :: rest) a (w.alloc (.cells #[v] 3)) :=
  wpList_append1s Try.underlying24 info3 rfl (by decide) p q s x sz hsz hgd ho hs hx hown hv (by omega) hB h
theorem app3 (hgd : o.guard = none) (ho : o.op = .call { callee := .builtin .append, args := #[s, x], argTypes := #[24, 24] }) (hs : a.eval s = .slice ra n rc) (hx : a.eval x = .slice (some ⟨w.heap.size, 0, none⟩) 1 1)
    (hown : Owns w B (p ++ ⟨3, ra, n, rc, xs⟩ :: q)) (hv : v.oneCell' = true) (hn : n < 17592186043904) (hB : B ≤ w.heap.size)
    (h : ∀ a' c' w', Owns w' B (p ++ ⟨3, a', n + 1, c', xs ++ [v]⟩ :: q) → Below B w w' → w.heap.size ≤ w'.heap.size → wpList Try.prog ops Q rest (a.put o.dst (.slice a' (n + 1) c')) w') :
    wpList Try.prog ops Q (o :: rest) a (w.alloc (.cells #[v] 3)) :=
  wpList_append1 Try.underlying24 info3 rfl (by decide) p q s x hgd ho hs hx hown hv (by omega) hB h
end

section
variable (b j : Nat) (w : World)

theorem store_any (u : Value) (y : BitVec 64) (hc : w.cell? ⟨b, j, none⟩ = some u) (hz : w.frozen? ⟨b, j, none⟩ = false) :
    Calls Try.prog 10 #[.pointer (some ⟨b, j, none⟩), .int .u64 (y.toNat : Int)] w fun e w' => e = .returned (.tuple #[]) ∧ w.setCell ⟨b, j, none⟩ (.int .u64 (y.toNat : Int)) = w' := by
  have hst := run_call_store (P := Try.prog) Try.func24 (by kernel_rfl) (by kernel_rfl) (by kernel_rfl) (by kernel_rfl) (k := .u64) (y := (y.toNat : Int)) hc hz
  go_enter Try.func10, Try.ntmps10
  go_wp2
  go_end0
  exact ⟨rfl, rfl⟩

theorem load_any (x : BitVec 64) (hc : w.cell? ⟨b, j, none⟩ = some (.int .u64 (x.toNat : Int))) :
    Calls Try.prog 11 #[.pointer (some ⟨b, j, none⟩)] w fun e w' => e = .returned (.int .u64 (x.toNat : Int)) ∧ w = w' := by
  have hst := run_call_load (P := Try.prog) Try.func25 (by kernel_rfl) (by kernel_rfl) (by kernel_rfl) .u64 (by kernel_rfl) hc
  go_enter Try.func11, Try.ntmps11
  go_wp2
  go_ret
  exact ⟨rfl, rfl⟩

theorem add_any (x y : BitVec 64) (hc : w.cell? ⟨b, j, none⟩ = some (.int .u64 (x.toNat : Int))) (hz : w.frozen? ⟨b, j, none⟩ = false) :
    Calls Try.prog 12 #[.pointer (some ⟨b, j, none⟩), .int .u64 (y.toNat : Int)] w fun e w' => e = .returned (.int .u64 ((x + y).toNat : Int)) ∧ w.setCell ⟨b, j, none⟩ (.int .u64 ((x + y).toNat : Int)) = w' := by
  have hst := run_call_add (P := Try.prog) Try.func26 (by kernel_rfl) (by kernel_rfl) (by kernel_rfl) .u64 (by kernel_rfl) hc hz (run_add_u64 x y w)
  generalize x + y = z at *
  go_enter Try.func12, Try.ntmps12
  go_wp2
  go_ret
  exact ⟨rfl, rfl⟩

theorem swap_any (x y : BitVec 64) (hc : w.cell? ⟨b, j, none⟩ = some (.int .u64 (x.toNat : Int))) (hz : w.frozen? ⟨b, j, none⟩ = false) :
    Calls Try.prog 13 #[.pointer (some ⟨b, j, none⟩), .int .u64 (y.toNat : Int)] w fun e w' => e = .returned (.int .u64 (x.toNat : Int)) ∧ w.setCell ⟨b, j, none⟩ (.int .u64 (y.toNat : Int)) = w' := by
  have hst := run_call_swap (P := Try.prog) Try.func27 (by kernel_rfl) (by kernel_rfl) (by kernel_rfl) .u64 (by kernel_rfl) (y := (y.toNat : Int)) hc hz
  go_enter Try.func13, Try.ntmps13
  go_wp2
  go_ret
  exact ⟨rfl, rfl⟩

theorem or_any (x y : BitVec 64) (hc : w.cell? ⟨b, j, none⟩ = some (.int .u64 (x.toNat : Int))) (hz : w.frozen? ⟨b, j, none⟩ = false) :
    Calls Try.prog 16 #[.pointer (some ⟨b, j, none⟩), .int .u64 (y.toNat : Int)] w fun e w' => e = .returned (.int .u64 (x.toNat : Int)) ∧ w.setCell ⟨b, j, none⟩ (.int .u64 ((x ||| y).toNat : Int)) = w' := by
  have hst := run_call_bits (P := Try.prog) Try.func30 (by kernel_rfl) (by kernel_rfl) (by kernel_rfl) .u64 .or (by kernel_rfl) hc hz (run_or_u64 x y w)
  generalize x ||| y = z at *
  go_enter Try.func16, Try.ntmps16
  go_wp2
  go_ret
  exact ⟨rfl, rfl⟩

theorem cas_hit (x y : BitVec 64) (hc : w.cell? ⟨b, j, none⟩ = some (.int .u64 (x.toNat : Int))) (hz : w.frozen? ⟨b, j, none⟩ = false) :
    Calls Try.prog 14 #[.pointer (some ⟨b, j, none⟩), .int .u64 (x.toNat : Int), .int .u64 (y.toNat : Int)] w fun e w' => e = .returned (.bool true) ∧ w.setCell ⟨b, j, none⟩ (.int .u64 (y.toNat : Int)) = w' := by
  have hst := run_call_cas_hit (P := Try.prog) Try.func28 (by kernel_rfl) (by kernel_rfl) (by kernel_rfl) .u64 (by kernel_rfl) (y := (y.toNat : Int)) hc hz
  go_enter Try.func14, Try.ntmps14
  go_wp2
  go_ret
  exact ⟨rfl, rfl⟩

theorem cas_miss (x o y : BitVec 64) (hc : w.cell? ⟨b, j, none⟩ = some (.int .u64 (x.toNat : Int))) (hz : w.frozen? ⟨b, j, none⟩ = false) (hne : ¬ x = o) :
    Calls Try.prog 14 #[.pointer (some ⟨b, j, none⟩), .int .u64 (o.toNat : Int), .int .u64 (y.toNat : Int)] w fun e w' => e = .returned (.bool false) ∧ w = w' := by
  have hne' : ¬ (x.toNat : Int) = (o.toNat : Int) := by
    rw [Int.natCast_inj]
    exact fun h => hne (BitVec.eq_of_toNat_eq h)
  have hst := run_call_cas_miss (P := Try.prog) Try.func28 (by kernel_rfl) (by kernel_rfl) (by kernel_rfl) .u64 (by kernel_rfl) (y := (y.toNat : Int)) hc hz hne'
  clear hne hne'
  go_enter Try.func14, Try.ntmps14
  go_wp2
  go_ret
  exact ⟨rfl, rfl⟩
end

/-! The same on a row of words among rows of the call's own. -/
theorem words_cell {w : World} {B E b n c j : Nat} {p q : List Row} {st : List (BitVec 64)} (h : Owns w B (p ++ ⟨E, some ⟨b, 0, none⟩, n, c, U st⟩ :: q)) (hj : j < st.length) :
    w.cell? ⟨b, j, none⟩ = some (.int .u64 ((st.getD j 0).toNat : Int)) ∧ w.frozen? ⟨b, j, none⟩ = false := by
  obtain ⟨h1, h2, h3⟩ := h.rd (r := ⟨E, some ⟨b, 0, none⟩, n, c, U st⟩) (by simp)
  obtain ⟨b', off', he, hc⟩ := h1 j (by simpa using hj)
  simp only [Option.some.injEq, Addr.mk.injEq, and_true] at he
  obtain ⟨rfl, rfl⟩ := he
  refine ⟨?_, (h3 b 0 rfl).2.2.2 j⟩
  rw [Nat.zero_add] at hc
  rw [hc, U_get hj]
  simp [hj]

section
variable {w : World} {B E b n c j : Nat} {p q : List Row} {st : List (BitVec 64)} (h : Owns w B (p ++ ⟨E, some ⟨b, 0, none⟩, n, c, U st⟩ :: q)) (hj : j < st.length) (y : BitVec 64)
include h hj

/-- What a method leaves: its answer; the row with one word set. -/
def Wrote (w : World) (B E b n c : Nat) (p q : List Row) (st : List (BitVec 64)) (v : Value) (en : Ending) (w' : World) : Prop :=
  en = .returned v ∧ Owns w' B (p ++ ⟨E, some ⟨b, 0, none⟩, n, c, U st⟩ :: q) ∧ Below B w w'

theorem wrote_of (x : BitVec 64) (v : Value) {en : Ending} {w' : World} (he : en = .returned v) (hw : w.setCell ⟨b, j, none⟩ (.int .u64 (x.toNat : Int)) = w') : Wrote w B E b n c p q (st.set j x) v en w' := by
  have := hj
  obtain ⟨h1, h2⟩ := Owns.stored h (b := b) (off := 0) rfl j (.int .u64 (x.toNat : Int))
  subst hw
  refine ⟨he, ?_, h2⟩
  simpa [U_set] using h1

theorem load_own (o : BitVec 64) (ho : st.getD j 0 = o) : Calls Try.prog 11 #[.pointer (some ⟨b, j, none⟩)] w fun e w' => e = .returned (.int .u64 (o.toNat : Int)) ∧ w = w' := by
  subst ho
  exact load_any b j w _ (words_cell h hj).1
theorem store_own : Calls Try.prog 10 #[.pointer (some ⟨b, j, none⟩), .int .u64 (y.toNat : Int)] w (Wrote w B E b n c p q (st.set j y) (.tuple #[])) :=
  (store_any b j w _ y (words_cell h hj).1 (words_cell h hj).2).mono fun _ _ ⟨he, hw⟩ => wrote_of h hj _ _ he hw
theorem add_own (o z : BitVec 64) (ho : st.getD j 0 = o) (hz : o + y = z) : Calls Try.prog 12 #[.pointer (some ⟨b, j, none⟩), .int .u64 (y.toNat : Int)] w (Wrote w B E b n c p q (st.set j z) (.int .u64 (z.toNat : Int))) := by
  subst ho hz
  exact (add_any b j w _ y (words_cell h hj).1 (words_cell h hj).2).mono fun _ _ ⟨he, hw⟩ => wrote_of h hj _ _ he hw
theorem swap_own (o : BitVec 64) (ho : st.getD j 0 = o) : Calls Try.prog 13 #[.pointer (some ⟨b, j, none⟩), .int .u64 (y.toNat : Int)] w (Wrote w B E b n c p q (st.set j y) (.int .u64 (o.toNat : Int))) := by
  subst ho
  exact (swap_any b j w _ y (words_cell h hj).1 (words_cell h hj).2).mono fun _ _ ⟨he, hw⟩ => wrote_of h hj _ _ he hw
theorem or_own (o z : BitVec 64) (ho : st.getD j 0 = o) (hz : o ||| y = z) : Calls Try.prog 16 #[.pointer (some ⟨b, j, none⟩), .int .u64 (y.toNat : Int)] w (Wrote w B E b n c p q (st.set j z) (.int .u64 (o.toNat : Int))) := by
  subst ho hz
  exact (or_any b j w _ y (words_cell h hj).1 (words_cell h hj).2).mono fun _ _ ⟨he, hw⟩ => wrote_of h hj _ _ he hw
theorem hit_own (x : BitVec 64) (hx : st.getD j 0 = x) : Calls Try.prog 14 #[.pointer (some ⟨b, j, none⟩), .int .u64 (x.toNat : Int), .int .u64 (y.toNat : Int)] w (Wrote w B E b n c p q (st.set j y) (.bool true)) := by
  subst hx
  exact (cas_hit b j w _ y (words_cell h hj).1 (words_cell h hj).2).mono fun _ _ ⟨he, hw⟩ => wrote_of h hj _ _ he hw
theorem miss_own (o x : BitVec 64) (ho : st.getD j 0 = o) (hx : ¬ o = x) : Calls Try.prog 14 #[.pointer (some ⟨b, j, none⟩), .int .u64 (x.toNat : Int), .int .u64 (y.toNat : Int)] w fun e w' => e = .returned (.bool false) ∧ w = w' := by
  subst ho
  exact cas_miss b j w _ x y (words_cell h hj).1 (words_cell h hj).2 hx
end

theorem set_same {st : List (BitVec 64)} {j : Nat} : st.set j (st.getD j 0) = st := by
  by_cases h : j < st.length
  · simp [h]
  · exact List.set_eq_of_length_le (by omega)

/-- What a call that makes one slice leaves. -/
def One (w : World) (e : TypeId) (n : Nat) (xs : List Value) (en : Ending) (w' : World) : Prop :=
  ∃ a c, en = .returned (.slice a n c) ∧ Owns w' w.heap.size [⟨e, a, n, c, xs⟩] ∧ Below w.heap.size w w'

theorem copied_any (a : Option Addr) (ca n : Nat) (xs : List (BitVec 64)) (w : World) (hx : Rd w a (U xs)) (hn : xs.length = n) (hnil : a = none → ca = 0) (bn : n ≤ 17592186043904) :
    Calls Try.prog 8 #[.slice a n ca] w (One w 28 n (U xs)) := by
  obtain ⟨i0, hi, hz0, hz1, hz2⟩ := info_parts info30
  have HN := Lib.hid hn
  have hx' := Lib.hid (Rd.mono hx ((Below.refl w.heap.size w).alloc (Nat.le_refl _) (.cells #[] 28)) (Nat.le_refl _))
  have ho := Lib.hid (Owns.made (Owns.nil w w.heap.size) (Nat.le_refl _) 28 #[] (by simp))
  have hn0 : a = none → n = 0 ∧ ca = 0 := by
    intro h
    refine ⟨?_, hnil h⟩
    subst h
    by_cases h0 : n = 0
    · exact h0
    · obtain ⟨_, _, h', _⟩ := hx.at_ (by simp; omega)
      simp at h'
  have HN0 := Lib.hid hn0
  clear hn hx hn0 hnil
  go_enter Try.func8, Try.ntmps8
  go_wp2_with (at_builtin; refine wpList_append_at _ rfl _ _ 22 rfl 28 i0 (.int .u64 0) 8 Try.underlying22 hi hz0 hz1 hz2 rfl (by decide) w.heap.size [] [] _ rfl rfl ho.out a n ca (U xs) rfl (by simp [HN.out]) HN0.out hx'.out U_one (by simp; omega) (by simp) ?_)
  intro a' c' w' ho' hb'
  have HO := Lib.hid ho'; have HB := Lib.hid hb'
  clear ho' hb'
  go_wp2
  go_ret
  exact ⟨a', c', rfl, HO.out, ((Below.refl _ _).alloc (Nat.le_refl _) _).trans HB.out⟩
end Go.Proofs.Ytjciefonlhhoaaa
