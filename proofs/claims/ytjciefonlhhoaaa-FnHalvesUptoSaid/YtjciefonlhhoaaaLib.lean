/-
  Laws on memory that a call itself makes: several rows (slices) at once, each in a block of its own; reading a slice; appending to one of several rows.
-/
import Derived.WalkKit
import Derived.ProofKit
import Derived.WalkSpells
import Derived.Lib.Hide
import Derived.WalkLawsBesides
import Derived.Deep.QuietTactic
import Derived.BigQuiet
import Derived.Deep.LoopGhost
namespace Go.Proofs.Ytjciefonlhhoaaa
set_option linter.unusedVariables false
set_option linter.unusedSimpArgs false
open Go.RowKit

/-- The address 'a' holds the cells 'xs'. -/
def Rd (w : World) (a : Option Addr) (xs : List Value) : Prop :=
  ∀ i, i < xs.length → ∃ b off, a = some ⟨b, off, none⟩ ∧ w.cell? ⟨b, off + i, none⟩ = xs[i]?

theorem Rd.nil (w : World) (a : Option Addr) : Rd w a [] := fun i h => absurd h (Nat.not_lt_zero _)

theorem Rd.at_ {w : World} {a : Option Addr} {xs : List Value} (h : Rd w a xs) (hn : 0 < xs.length) :
    ∃ b off, a = some ⟨b, off, none⟩ ∧ b < w.heap.size ∧ ∀ i, i < xs.length → w.cell? ⟨b, off + i, none⟩ = xs[i]? := by
  obtain ⟨b, off, rfl, hc⟩ := h 0 hn
  refine ⟨b, off, rfl, ?_, ?_⟩
  · have h0 : w.cell? ⟨b, off + 0, none⟩ = some xs[0] := by rw [hc]; simp [hn]
    exact World.block_lt_of_cell? w _ h0
  · intro i hi
    obtain ⟨b', off', he, hc'⟩ := h i hi
    simp only [Option.some.injEq, Addr.mk.injEq, and_true] at he
    obtain ⟨rfl, rfl⟩ := he
    exact hc'

/-- What can be read stays so as long as the old blocks are as they were. -/
theorem Rd.mono {w w' : World} {a : Option Addr} {xs : List Value} (h : Rd w a xs) {B : Nat} (hb : Below B w w') (hB : w.heap.size ≤ B) : Rd w' a xs := by
  intro i hi
  obtain ⟨b, off, rfl, hlt, hc⟩ := h.at_ (by omega)
  exact ⟨b, off, rfl, (hb.cell (p := ⟨b, off + i, none⟩) (by show b < B; omega)).trans (hc i hi)⟩

/-- A row of the call's own: its element type, address, length, capacity, cells. -/
structure Row where
  e : TypeId
  a : Option Addr
  n : Nat
  c : Nat
  xs : List Value

def Row.val (r : Row) : Value := .slice r.a r.n r.c

def Row.apart (r s : Row) : Prop := r.val.ownBlock = none ∨ r.val.ownBlock ≠ s.val.ownBlock

/-- Several rows of the call's own, each in a block of its own, from block B on. -/
def Owns (w : World) (B : Nat) (L : List Row) : Prop :=
  (∀ r ∈ L, w.ownsRow B r.e 1 r.val r.n r.xs) ∧ L.Pairwise Row.apart

theorem Row.apart.symm {r s : Row} (h : r.apart s) : s.apart r := by
  unfold Row.apart at *
  cases hs : s.val.ownBlock with
  | none => exact .inl rfl
  | some x =>
    right
    rcases h with h | h
    · rw [h]; simp
    · rw [hs] at h; exact fun e => h e.symm

theorem ownsRow_rd {w : World} {B e n c : Nat} {a : Option Addr} {xs : List Value} (h : w.ownsRow B e 1 (.slice a n c) n xs) : Rd w a xs ∧ xs.length = n ∧ (∀ b off, a = some ⟨b, off, none⟩ → off = 0 ∧ B ≤ b ∧ b < w.heap.size ∧ ∀ i, w.frozen? ⟨b, i, none⟩ = false) := by
  have hl := h.1
  simp only [Nat.mul_one] at hl
  rcases h.2 with ⟨h', rfl⟩ | ⟨g, cap, cur, h', hB, hg, hnc, hcm, hcs, htake⟩
  · simp only [Value.slice.injEq] at h'
    obtain ⟨rfl, _, _⟩ := h'
    refine ⟨?_, hl, by simp⟩
    obtain rfl : xs = [] := List.eq_nil_of_length_eq_zero hl
    exact Rd.nil _ _
  · simp only [Value.slice.injEq] at h'
    obtain ⟨rfl, _, rfl⟩ := h'
    refine ⟨?_, hl, ?_⟩
    · intro i hi
      refine ⟨g, 0, rfl, ?_⟩
      rw [Nat.zero_add]
      exact h.cellAt i (by omega)
    · intro b off he
      simp only [Option.some.injEq, Addr.mk.injEq, and_true] at he
      obtain ⟨rfl, rfl⟩ := he
      exact ⟨rfl, hB, (Array.getElem?_eq_some_iff.1 hg).1, fun i => h.frozenAt i⟩

theorem Owns.rd {w : World} {B : Nat} {L : List Row} (h : Owns w B L) {r : Row} (hr : r ∈ L) : Rd w r.a r.xs ∧ r.xs.length = r.n ∧ (∀ b off, r.a = some ⟨b, off, none⟩ → off = 0 ∧ B ≤ b ∧ b < w.heap.size ∧ ∀ i, w.frozen? ⟨b, i, none⟩ = false) :=
  ownsRow_rd (h.1 r hr)

theorem Owns.nil (w : World) (B : Nat) : Owns w B [] := ⟨by simp, .nil⟩

/-- Rows stay as long as what was there stays. -/
theorem Owns.mono {w w' : World} {B : Nat} {L : List Row} (h : Owns w B L) {B' : Nat} (hb : Below B' w w') (hB : w.heap.size ≤ B') : Owns w' B L := by
  refine ⟨fun r hr => ?_, h.2⟩
  refine (h.1 r hr).kept (row := none) ⟨hb.os, hb.tape, hb.output, hb.size, fun k hk _ => hb.block k (by omega)⟩ ?_
  cases r.val.ownBlock <;> simp

/-- Rows stay while the blocks from B0 on alone are written, B0 beyond all of them. -/
theorem Owns.base {w : World} {B B' : Nat} {L : List Row} (h : Owns w B L) (hB : B' ≤ B) : Owns w B' L := by
  refine ⟨fun r hr => ?_, h.2⟩
  obtain ⟨h1, h2⟩ := h.1 r hr
  refine ⟨h1, ?_⟩
  rcases h2 with h2 | ⟨g, cap, cur, hv, hg, rest⟩
  · exact .inl h2
  · exact .inr ⟨g, cap, cur, hv, by omega, rest⟩

theorem Owns.drop {w : World} {B : Nat} {L L' : List Row} (h : Owns w B L) (hs : L'.Sublist L) : Owns w B L' :=
  ⟨fun r hr => h.1 r (hs.subset hr), h.2.sublist hs⟩

theorem Owns.perm {w : World} {B : Nat} {L L' : List Row} (h : Owns w B L) (hp : L.Perm L') : Owns w B L' :=
  ⟨fun r hr => h.1 r (hp.mem_iff.2 hr), (hp.pairwise_iff (fun h => Row.apart.symm h)).1 h.2⟩

/-- Rows of an elder call and rows that a later one made. -/
theorem Owns.append {w : World} {B B' : Nat} {L L' : List Row} (h : Owns w B L) (h' : Owns w B' L') (hB : B ≤ B') (hlt : ∀ r ∈ L, ∀ k, r.val.ownBlock = some k → k < B') : Owns w B (L ++ L') := by
  have h'' := h'.base hB
  refine ⟨?_, ?_⟩
  · intro r hr
    rcases List.mem_append.1 hr with hr | hr
    · exact h.1 r hr
    · exact h''.1 r hr
  · refine List.pairwise_append.2 ⟨h.2, h'.2, fun r hr s hs => ?_⟩
    cases hk : r.val.ownBlock with
    | none => exact .inl hk
    | some k =>
      right
      have h1 := hlt r hr k hk
      intro e
      have h2 := ((h'.1 s hs).lt k (e.symm.trans hk)).1
      omega

theorem Owns.lt {w : World} {B : Nat} {L : List Row} (h : Owns w B L) : ∀ r ∈ L, ∀ k, r.val.ownBlock = some k → k < w.heap.size :=
  fun r hr k hk => ((h.1 r hr).lt k hk).2

/-- One row turned, the others kept. -/
theorem Owns.turn {w w' : World} {B : Nat} {p q : List Row} {r r' : Row} (h : Owns w B (p ++ r :: q)) (h' : w'.ownsRow B r'.e 1 r'.val r'.n r'.xs) (hg : w.grownBy w' r.val.ownBlock)
    (hb : r'.val.ownBlock = none ∨ r'.val.ownBlock = r.val.ownBlock ∨ ∃ k, r'.val.ownBlock = some k ∧ w.heap.size ≤ k) : Owns w' B (p ++ r' :: q) := by
  have hp := h.2
  rw [List.pairwise_append] at hp
  obtain ⟨hp1, hp2, hp3⟩ := hp
  rw [List.pairwise_cons] at hp2
  have hap : ∀ s, (s ∈ p ∨ s ∈ q) → s.apart r := by
    intro s hs
    rcases hs with hs | hs
    · exact hp3 s hs r (by simp)
    · exact (hp2.1 s hs).symm
  have hmem : ∀ s, (s ∈ p ∨ s ∈ q) → w.ownsRow B s.e 1 s.val s.n s.xs := fun s hs => h.1 s (by rcases hs with hs | hs <;> simp [hs])
  have hap' : ∀ s, (s ∈ p ∨ s ∈ q) → s.apart r' := by
    intro s hs
    rcases hb with hb | hb | ⟨k, hb, hk⟩
    · cases e : s.val.ownBlock with
      | none => exact .inl e
      | some x => exact .inr (by rw [hb, e]; simp)
    · rcases hap s hs with h0 | h0
      · exact .inl h0
      · exact .inr (by rw [hb]; exact h0)
    · cases e : s.val.ownBlock with
      | none => exact .inl e
      | some x =>
        right
        rw [hb, e]
        have := ((hmem s hs).lt x e).2
        simp
        omega
  refine ⟨?_, ?_⟩
  · intro s hs
    rw [List.mem_append, List.mem_cons] at hs
    have keep : ∀ s, (s ∈ p ∨ s ∈ q) → w'.ownsRow B s.e 1 s.val s.n s.xs := fun s hs => (hmem s hs).kept hg (hap s hs)
    rcases hs with hs | rfl | hs
    · exact keep s (.inl hs)
    · exact h'
    · exact keep s (.inr hs)
  · rw [List.pairwise_append]
    refine ⟨hp1, ?_, ?_⟩
    · rw [List.pairwise_cons]
      exact ⟨fun s hs => (hap' s (.inr hs)).symm, hp2.2⟩
    · intro s hs t ht
      rw [List.mem_cons] at ht
      rcases ht with rfl | ht
      · exact hap' s (.inl hs)
      · exact hp3 s hs t (by simp [ht])

section
variable {P : Program} (w : World)

/-- An append to a row of the call's own: it stays in its block, or lies in a new one. -/
theorem run_append_at (base : Nat) (t ty e : TypeId) (i : TypeInfo) (z : Value) (bytes : Nat) (ht : P.underlying t = some (.slice e)) (hi : P.info? e = some i) (hz : i.zero = some z)
    (hsize : i.size = 1) (hby : i.bytes = bytes) (hzs : z.cells.size = 1)
    (r : Row) (hre : r.e = e) (hown : w.ownsRow base r.e 1 r.val r.n r.xs)
    (ao : Option Addr) (m c : Nat) (news : List Value) (hl : news.length = m) (hao : ao = none → m = 0 ∧ c = 0) (hnews : Rd w ao news) (h1 : ∀ u ∈ news, u.oneCell' = true)
    (hbytes : (r.n + m) * bytes ≤ 140737488355328) (hb0 : 0 < bytes) (hbase : base ≤ w.heap.size) :
    ∃ a' c' w', (Builtin.append_ #[t, t] ty #[r.val, .slice ao m c]).run P w = .ok (.slice a' (r.n + m) c') w' ∧ w'.ownsRow base e 1 (.slice a' (r.n + m) c') (r.n + m) (r.xs ++ news) ∧ w.grownBy w' r.val.ownBlock ∧
      ((Value.slice a' (r.n + m) c').ownBlock = none ∨ (Value.slice a' (r.n + m) c').ownBlock = r.val.ownBlock ∨ ∃ k, (Value.slice a' (r.n + m) c').ownBlock = some k ∧ w.heap.size ≤ k) := by
  obtain ⟨re, ra, n, rc, xs⟩ := r
  simp only at hre hown hbytes ⊢
  subst hre
  have hnm : n + m ≤ 140737488355328 := Nat.le_trans (Nat.le_mul_of_pos_right _ hb0) hbytes
  have h63 : n + m ≤ maxLen := by simp only [maxLen]; omega
  cases ao with
  | none =>
    obtain ⟨rfl, rfl⟩ := hao rfl
    obtain rfl : news = [] := List.eq_nil_of_length_eq_zero hl
    refine ⟨ra, rc, w, run_append_owned_none (P := P) w base t ty re i 1 ht hi _ n xs hown, by simpa [Row.val] using hown, World.grownBy.refl _ _, .inr (.inl rfl)⟩
  | some a =>
    have hnews' : ∀ j u, news[j]? = some u → w.cell? (a.add j) = some u := by
      intro j u hu
      have hj := (List.getElem?_eq_some_iff.1 hu).1
      obtain ⟨b, off, he, hc⟩ := hnews j hj
      simp only [Option.some.injEq] at he
      subst he
      rw [Addr.add_lit, hc, hu]
    have hl' : news.length = m * i.size := by rw [hsize, hl, Nat.mul_one]
    rcases hown.2 with ⟨hv, hn0⟩ | ⟨g, cap, cur, hv, hbg, hg, hnc, hcm, hcs, htake⟩
    · obtain ⟨v', w', hr, h2, h3, h4⟩ := run_append_own (P := P) w base t ty re i z 1 bytes ht hi hz hsize hby hzs (by decide) _ n xs hown a m c news (by rw [hl, Nat.mul_one]) hnews' h1 h63 hbytes hbase
      simp only [Row.val] at hv hr h3 h4 ⊢
      simp only [Value.slice.injEq] at hv
      obtain ⟨rfl, rfl, rfl⟩ := hv
      by_cases hm : m = 0
      · subst hm
        have hv' := h4.2 ⟨rfl, rfl⟩
        subst hv'
        exact ⟨none, 0, w', hr, h2, h3, .inl rfl⟩
      · have hr2 := run_append_nil (P := P) w t ty re i z ht hi hz a m c news hl' hnews' (by omega) (by omega) (by have hb := hbytes; simp only [Nat.zero_add] at hb; rw [hby]; omega)
        rw [hr] at hr2
        simp only [Result.ok.injEq] at hr2
        obtain ⟨rfl, rfl⟩ := hr2
        simp only [Nat.zero_add] at h2 hr ⊢
        exact ⟨_, _, _, hr, h2, h3, .inr (.inr ⟨_, rfl, Nat.le_refl _⟩)⟩
    · simp only [Row.val] at hv hown ⊢
      simp only [Value.slice.injEq, true_and] at hv
      obtain ⟨rfl, rfl⟩ := hv
      obtain ⟨v', w', hr, h2, h3, h4⟩ := run_append_own (P := P) w base t ty re i z 1 bytes ht hi hz hsize hby hzs (by decide) _ n xs hown a m c news (by rw [hl, Nat.mul_one]) hnews' h1 h63 hbytes hbase
      by_cases hroom : n + m ≤ rc
      · have hfit : n * i.size + news.length ≤ cur.size := by rw [hsize, hl, hcs]; omega
        have hr2 := run_append_room (P := P) w t ty re i ht hi g n rc cur hg a m c news hl' hnews' h1 hroom hfit
        rw [hr] at hr2
        simp only [Result.ok.injEq] at hr2
        obtain ⟨rfl, rfl⟩ := hr2
        exact ⟨_, _, _, hr, h2, h3, .inr (.inl rfl)⟩
      · have holds : ∀ j u, xs[j]? = some u → w.cell? ((⟨g, 0, none⟩ : Addr).add j) = some u := hown.cells (g := g) rfl
        have hr2 := run_append_grow (P := P) w t ty re i z ht hi hz ⟨g, 0, none⟩ n rc xs (by rw [hsize]; exact hown.1) holds a m c news hl' hnews' (by omega) (by simp only [maxLen] at h63; omega) (by rw [hby]; exact growslice_fits (by omega) hbytes)
        rw [hr] at hr2
        simp only [Result.ok.injEq] at hr2
        obtain ⟨rfl, rfl⟩ := hr2
        exact ⟨_, _, _, hr, h2, h3, .inr (.inr ⟨_, rfl, Nat.le_refl _⟩)⟩

/-- The walk's law: an append to one of several rows. -/
theorem wpList_append_at {ops : Array Oper} {rest : List Oper} {o : Oper} {a : Act} {Q : Exit → Act → World → Prop} (hgd : o.guard = none) (s x : Operand) (t : TypeId)
    (ho : o.op = .call { callee := .builtin .append, args := #[s, x], argTypes := #[t, t] })
    (e : TypeId) (i : TypeInfo) (z : Value) (bytes : Nat) (ht : P.underlying t = some (.slice e)) (hi : P.info? e = some i) (hz : i.zero = some z)
    (hsize : i.size = 1) (hby : i.bytes = bytes) (hzs : z.cells.size = 1) (hb0 : 0 < bytes)
    (B : Nat) (p q : List Row) (r : Row) (hre : r.e = e) (hs : a.eval s = r.val) (hown : Owns w B (p ++ r :: q))
    (ao : Option Addr) (m c : Nat) (news : List Value) (hx : a.eval x = .slice ao m c) (hl : news.length = m) (hao : ao = none → m = 0 ∧ c = 0) (hnews : Rd w ao news) (h1 : ∀ u ∈ news, u.oneCell' = true)
    (hbytes : (r.n + m) * bytes ≤ 140737488355328) (hbase : B ≤ w.heap.size)
    (h : ∀ a' c' w', Owns w' B (p ++ ⟨e, a', r.n + m, c', r.xs ++ news⟩ :: q) → Below B w w' → wpList P ops Q rest (a.put o.dst (.slice a' (r.n + m) c')) w') : wpList P ops Q (o :: rest) a w := by
  refine wpList_plain hgd fun K hK => ?_
  have hr := hown.1 r (by simp)
  obtain ⟨a', c', w', hrun, h2, h3, h4⟩ := run_append_at (P := P) w B t o.type e i z bytes ht hi hz hsize hby hzs r hre hr ao m c news hl hao hnews h1 hbytes hb0 hbase
  unfold Oper.wp execOp
  simp only [ho, resolve, invoke, builtin, Sem.run_bind, Sem.run_pure, Result.andThen_ok, List.map_toArray, List.map_cons, List.map_nil, hs, hx, hrun]
  refine hK _ _ (h a' c' w' ?_ ?_)
  · exact Owns.turn (r' := ⟨e, a', r.n + m, c', r.xs ++ news⟩) hown h2 h3 h4
  · exact (Below.refl B w).grown h3 hbase fun k hk => (hr.lt k hk).1
end

theorem Owns.alloc {w : World} {B : Nat} {L : List Row} (h : Owns w B L) (o : Obj) : Owns (w.alloc o) B L :=
  ⟨fun r hr => (h.1 r hr).alloc o, h.2⟩

theorem Owns.drew {w : World} {B : Nat} {L : List Row} (h : Owns w B L) : Owns w.drew B L := h

/-- The one cell that 'append(out, x)' lays first. -/
theorem Rd.one (w : World) (x : Value) (e : TypeId) : Rd (w.alloc (.cells #[x] e)) (some ⟨w.heap.size, 0, none⟩) [x] := by
  intro i hi
  obtain rfl : i = 0 := by simp at hi; omega
  exact ⟨w.heap.size, 0, rfl, by simp⟩

/-- The walk's law: 'out = append(out, x)', out one of several rows. -/
theorem wpList_append1 {P : Program} {w : World} {ops : Array Oper} {rest : List Oper} {o : Oper} {a : Act} {Q : Exit → Act → World → Prop} {t e bytes : Nat} {z : Value} (ht : P.underlying t = some (.slice e))
    (hinfo : (P.info? e).map (fun i => (i.zero, i.size, i.bytes)) = some (some z, 1, bytes)) (hzs : z.cells.size = 1) (hb0 : 0 < bytes)
    {B : Nat} (p q : List Row) {ra : Option Addr} {n rc : Nat} {xs : List Value} {v : Value} (s x : Operand) (hgd : o.guard = none)
    (ho : o.op = .call { callee := .builtin .append, args := #[s, x], argTypes := #[t, t] })
    (hs : a.eval s = .slice ra n rc) (hx : a.eval x = .slice (some ⟨w.heap.size, 0, none⟩) 1 1) (hown : Owns w B (p ++ ⟨e, ra, n, rc, xs⟩ :: q)) (hv : v.oneCell' = true)
    (hbytes : (n + 1) * bytes ≤ 140737488355328) (hB : B ≤ w.heap.size)
    (h : ∀ a' c' w', Owns w' B (p ++ ⟨e, a', n + 1, c', xs ++ [v]⟩ :: q) → Below B w w' → w.heap.size ≤ w'.heap.size → wpList P ops Q rest (a.put o.dst (.slice a' (n + 1) c')) w') :
    wpList P ops Q (o :: rest) a (w.alloc (.cells #[v] e)) := by
  obtain ⟨i, hi, hz, hsz, hby⟩ := info_parts hinfo
  refine wpList_append_at (w.alloc (.cells #[v] e)) hgd s x t ho e i z bytes ht hi hz hsz hby hzs hb0 B p q ⟨e, ra, n, rc, xs⟩ rfl hs (hown.alloc _) _ 1 1 [v] hx rfl (by simp) (Rd.one _ _ _) (by simpa using hv) hbytes (by simp; omega) ?_
  intro a' c' w' ho' hb'
  exact h a' c' w' ho' (((Below.refl B w).alloc hB _).trans hb') (by have := hb'.size; simp at this; omega)

/-- A new empty row. -/
theorem Owns.made {w : World} {B : Nat} {L : List Row} (h : Owns w B L) (hB : B ≤ w.heap.size) (e : TypeId) (cs : Array Value) (hm : cs.size ≤ maxLen) :
    Owns (w.alloc (.cells cs e)) B (L ++ [⟨e, some ⟨w.heap.size, 0, none⟩, cs.size, cs.size, cs.toList⟩]) := by
  refine ⟨?_, ?_⟩
  · intro r hr
    rcases List.mem_append.1 hr with hr | hr
    · exact (h.1 r hr).alloc _
    · simp at hr
      subst hr
      exact World.ownsRow_lit w cs cs.size hB hm (by simp)
  · refine List.pairwise_append.2 ⟨h.2, by simp, ?_⟩
    intro r hr s hs
    simp at hs
    subst hs
    cases hk : r.val.ownBlock with
    | none => exact .inl hk
    | some k =>
      right
      have := h.lt r hr k hk
      rw [hk]
      simp [Row.val, Value.ownBlock]
      omega
/-- Rows of the call's own and rows that a callee made. -/
theorem Owns.more {w0 w1 : World} {B : Nat} {L L' : List Row} (h : Owns w0 B L) (hb : Below w0.heap.size w0 w1) (h' : Owns w1 w0.heap.size L') (hB : B ≤ w0.heap.size) : Owns w1 B (L ++ L') :=
  (h.mono hb (Nat.le_refl _)).append h' hB h.lt

theorem Below.more {B : Nat} {w w0 w1 : World} (h : Below B w w0) (hb : Below w0.heap.size w0 w1) (hB : B ≤ w0.heap.size) : Below B w w1 := h.trans (hb.mono hB)

/-- A row of the call's own, read. -/
theorem Owns.rdAt {w : World} {B : Nat} {L : List Row} (h : Owns w B L) (i : Nat) {r : Row} (hi : L[i]? = some r) : Rd w r.a r.xs := (h.rd (List.mem_of_getElem? hi)).1

/-- One cell of a row of the call's own. -/
theorem Owns.cellAt {w : World} {B : Nat} {L : List Row} (h : Owns w B L) (i : Nat) {e : TypeId} {a : Option Addr} {n c : Nat} {xs : List Value} (hi : L[i]? = some ⟨e, a, n, c, xs⟩) {j : Nat} (hj : j < xs.length) :
    ∃ b, a = some ⟨b, 0, none⟩ ∧ w.cell? ⟨b, j, none⟩ = xs[j]? ∧ w.frozen? ⟨b, j, none⟩ = false ∧ B ≤ b ∧ b < w.heap.size := by
  obtain ⟨h1, h2, h3⟩ := h.rd (List.mem_of_getElem? hi)
  obtain ⟨b, off, ha, hc⟩ := h1 j hj
  simp only at ha
  obtain ⟨rfl, hB, hlt, hf⟩ := h3 b off ha
  refine ⟨b, ha, ?_, hf j, hB, hlt⟩
  rw [Nat.zero_add] at hc
  exact hc

/-- The walk's law: 'out = append(out, x)' in a world whose size is told apart. -/
theorem wpList_append1s {P : Program} {w : World} {ops : Array Oper} {rest : List Oper} {o : Oper} {a : Act} {Q : Exit → Act → World → Prop} {t e bytes : Nat} {z : Value} (ht : P.underlying t = some (.slice e))
    (hinfo : (P.info? e).map (fun i => (i.zero, i.size, i.bytes)) = some (some z, 1, bytes)) (hzs : z.cells.size = 1) (hb0 : 0 < bytes)
    {B : Nat} (p q : List Row) {ra : Option Addr} {n rc : Nat} {xs : List Value} {v : Value} (s x : Operand) (sz : Nat) (hsz : w.heap.size = sz) (hgd : o.guard = none)
    (ho : o.op = .call { callee := .builtin .append, args := #[s, x], argTypes := #[t, t] })
    (hs : a.eval s = .slice ra n rc) (hx : a.eval x = .slice (some ⟨sz, 0, none⟩) 1 1) (hown : Owns w B (p ++ ⟨e, ra, n, rc, xs⟩ :: q)) (hv : v.oneCell' = true)
    (hbytes : (n + 1) * bytes ≤ 140737488355328) (hB : B ≤ sz)
    (h : ∀ a' c' w', Owns w' B (p ++ ⟨e, a', n + 1, c', xs ++ [v]⟩ :: q) → Below B w w' → sz ≤ w'.heap.size → wpList P ops Q rest (a.put o.dst (.slice a' (n + 1) c')) w') :
    wpList P ops Q (o :: rest) a (w.alloc (.cells #[v] e)) := by
  subst hsz
  exact wpList_append1 ht hinfo hzs hb0 p q s x hgd ho hs hx hown hv hbytes hB h
end Go.Proofs.Ytjciefonlhhoaaa
