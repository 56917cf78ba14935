/-
  The contract of Run64: it returns what the script answers, and the cells at last, in memory of its own.
-/
import Derived.Test.YtjciefonlhhoaaaAtom
import Derived.StillTailTactics
namespace Go.Proofs.Ytjciefonlhhoaaa
set_option linter.unusedVariables false
set_option linter.unusedSimpArgs false
open Go.RowKit

theorem info5 : (Try.prog.info? 5).map (fun i => (i.zero, i.size, i.bytes)) = some (some (.int .u8 0), 1, 1) := by kernel_rfl
theorem app5 {w : World} {ops : Array Oper} {rest : List Oper} {o : Oper} {a : Act} {Q : Exit → Act → World → Prop} {B : Nat} (p q : List Row) {ra : Option Addr} {n rc : Nat} {xs : List Value} {v : Value} (s x : Operand)
    (hgd : o.guard = none) (ho : o.op = .call { callee := .builtin .append, args := #[s, x], argTypes := #[23, 23] }) (hs : a.eval s = .slice ra n rc) (hx : a.eval x = .slice (some ⟨w.heap.size, 0, none⟩) 1 1)
    (hown : Owns w B (p ++ ⟨5, ra, n, rc, xs⟩ :: q)) (hv : v.oneCell' = true) (hn : n < 17592186043904) (hB : B ≤ w.heap.size)
    (h : ∀ a' c' w', Owns w' B (p ++ ⟨5, a', n + 1, c', xs ++ [v]⟩ :: q) → Below B w w' → w.heap.size ≤ w'.heap.size → wpList Try.prog ops Q rest (a.put o.dst (.slice a' (n + 1) c')) w') :
    wpList Try.prog ops Q (o :: rest) a (w.alloc (.cells #[v] 5)) :=
  wpList_append1 Try.underlying23 info5 rfl (by decide) p q s x hgd ho hs hx hown hv (by omega) hB h

theorem and_any (b j : Nat) (w : World) (x y : BitVec 64) (hc : w.cell? ⟨b, j, none⟩ = some (.int .u64 (x.toNat : Int))) (hz : w.frozen? ⟨b, j, none⟩ = false) :
    Calls Try.prog 15 #[.pointer (some ⟨b, j, none⟩), .int .u64 (y.toNat : Int)] w fun e w' => e = .returned (.int .u64 (x.toNat : Int)) ∧ w.setCell ⟨b, j, none⟩ (.int .u64 ((x &&& y).toNat : Int)) = w' := by
  have hst := run_call_bits (P := Try.prog) Try.func29 (by kernel_rfl) (by kernel_rfl) (by kernel_rfl) .u64 .and (by kernel_rfl) hc hz (run_and_u64 x y w)
  generalize x &&& y = z at *
  go_enter Try.func15, Try.ntmps15
  go_wp2
  go_ret
  exact ⟨rfl, rfl⟩

/-- What Run64 leaves. -/
def Two (w : World) (e f : TypeId) (n m : Nat) (xs ys : List Value) (en : Ending) (w' : World) : Prop :=
  ∃ a c b d, en = .returned (.tuple #[.slice a n c, .slice b m d]) ∧ Owns w' w.heap.size [⟨e, a, n, c, xs⟩, ⟨f, b, m, d, ys⟩] ∧ Below w.heap.size w w'

theorem and_own {w : World} {B E b n c j : Nat} {p q : List Row} {st : List (BitVec 64)} (h : Owns w B (p ++ ⟨E, some ⟨b, 0, none⟩, n, c, U st⟩ :: q)) (hj : j < st.length) (y o z : BitVec 64) (ho : st.getD j 0 = o) (hz : o &&& y = z) :
    Calls Try.prog 15 #[.pointer (some ⟨b, j, none⟩), .int .u64 (y.toNat : Int)] w (Wrote w B E b n c p q (st.set j z) (.int .u64 (o.toNat : Int))) := by
  subst ho hz
  exact (and_any b j w _ y (words_cell h hj).1 (words_cell h hj).2).mono fun _ _ ⟨he, hw⟩ => wrote_of h hj _ _ he hw

theorem made_u64 (n : Nat) : (madeCells #[.int .u64 0] n).toList = U (List.replicate n 0) := by
  simp only [madeCells, U]
  rw [List.map_replicate]
  apply List.ext_getElem
  · simp
  · intro i h1 h2
    simp [Nat.mod_one]

/-- A script as the calls' lists. -/
def kindsOf {n : Nat} (sc : List (Call n)) : List (BitVec 8) := sc.map (·.kind)
def cellsOf {n : Nat} (sc : List (Call n)) : List Nat := sc.map (·.cell)
def asOf {n : Nat} (sc : List (Call n)) : List (BitVec n) := sc.map (·.a)
def bsOf {n : Nat} (sc : List (Call n)) : List (BitVec n) := sc.map (·.b)

/-- Rows in the midst of the first loop. -/
theorem fill_step {st : List (BitVec 64)} {k n : Nat} (hst : st.length = n) (hk : k < st.length) : (st.take k ++ List.replicate (n - k) 0).set k st[k] = st.take (k + 1) ++ List.replicate (n - (k + 1)) 0 := by
  subst hst
  rw [List.set_append_right _ _ (by simp; omega), List.take_succ_eq_append_getElem hk, List.append_assoc]
  congr 1
  rw [show st.length - k = (st.length - (k + 1)) + 1 by omega, List.replicate_succ]
  simp [Nat.min_eq_left (Nat.le_of_lt hk)]

theorem fill_end {st : List (BitVec 64)} {k n : Nat} (hst : st.length = n) (hk : ¬ k < n) : st.take k ++ List.replicate (n - k) 0 = st := by
  rw [show n - k = 0 by omega, List.take_of_length_le (by omega)]
  simp

theorem rel_step {w : World} {B E n a c k cl : Nat} {x y : Option Addr} {st S A : List (BitVec 64)} {sc : List (Call 64)} {κ : BitVec 8} {u v : BitVec 64} (h : k < sc.length) (hS : (runL st (sc.take k)).2 = S) (hA : (runL st (sc.take k)).1 = A)
    (hc : sc[k] = ⟨κ, cl, u, v⟩) {o ans new : BitVec 64} (hO : S.getD cl 0 = o) (hs : (⟨κ, cl, u, v⟩ : Call 64).step o = (ans, new))
    (ho : Owns w B [⟨E, x, n, a, U (S.set cl new)⟩, ⟨28, y, k + 1, c, U A ++ [.int .u64 (ans.toNat : Int)]⟩]) :
    Owns w B [⟨E, x, n, a, U (runL st (sc.take (k + 1))).2⟩, ⟨28, y, k + 1, c, U (runL st (sc.take (k + 1))).1⟩] := by
  rw [runL_take_succ h, hc, hS, hA, hO, hs]
  simpa [U_snoc] using ho

/-- One round's facts: what the script's lists hold at k. -/
theorem at_u64 {w0 w : World} {B : Nat} {a : Option Addr} {xs : List (BitVec 64)} (h : Rd w0 a (U xs)) (hb : Below B w0 w) (hB : w0.heap.size ≤ B) {k : Nat} (hk : k < xs.length) :
    ∃ b off, a = some ⟨b, off, none⟩ ∧ w.cell? ⟨b, off + k, none⟩ = some (.int .u64 (xs[k].toNat : Int)) := by
  obtain ⟨b, off, he, hc⟩ := (h.mono hb hB) k (by simpa using hk)
  exact ⟨b, off, he, by rw [hc, U_get hk]⟩
theorem at_u8 {w0 w : World} {B : Nat} {a : Option Addr} {xs : List (BitVec 8)} (h : Rd w0 a (U8 xs)) (hb : Below B w0 w) (hB : w0.heap.size ≤ B) {k : Nat} (hk : k < xs.length) :
    ∃ b off, a = some ⟨b, off, none⟩ ∧ w.cell? ⟨b, off + k, none⟩ = some (.int .u8 (xs[k].toNat : Int)) := by
  obtain ⟨b, off, he, hc⟩ := (h.mono hb hB) k (by simpa using hk)
  exact ⟨b, off, he, by rw [hc, U8_get hk]⟩
theorem at_int {w0 w : World} {B : Nat} {a : Option Addr} {xs : List Nat} (h : Rd w0 a (NI xs)) (hb : Below B w0 w) (hB : w0.heap.size ≤ B) {k : Nat} (hk : k < xs.length) :
    ∃ b off, a = some ⟨b, off, none⟩ ∧ w.cell? ⟨b, off + k, none⟩ = some (.int .i64 (xs[k] : Int)) := by
  obtain ⟨b, off, he, hc⟩ := (h.mono hb hB) k (by simpa using hk)
  exact ⟨b, off, he, by rw [hc, NI_get hk]⟩

set_option maxHeartbeats 1600000 in
set_option maxRecDepth 100000 in
theorem run64_any (w : World) (a0 a1 a2 a3 a4 : Option Addr) (c0 c1 c2 c3 c4 n m : Nat) (st : List (BitVec 64)) (sc : List (Call 64)) (hst : st.length = n) (hsc : sc.length = m)
    (r0 : Rd w a0 (U st)) (r1 : Rd w a1 (U8 (kindsOf sc))) (r2 : Rd w a2 (NI (cellsOf sc))) (r3 : Rd w a3 (U (asOf sc))) (r4 : Rd w a4 (U (bsOf sc)))
    (bn : n ≤ 17592186043904) (bm : m ≤ 17592186043904) (hcell : ∀ c ∈ sc, c.cell < n) :
    Calls Try.prog 7 #[.slice a0 n c0, .slice a1 m c1, .slice a2 m c2, .slice a3 m c3, .slice a4 m c4] w (Two w 28 28 m n (U (runL st sc).1) (U (runL st sc).2)) := by
  obtain ⟨i0, hi, hz0, hz1, hz2⟩ := info_parts info30
  obtain ⟨j0, hj, hy0, hy1, hy2⟩ := info_parts info61
  have Hst := Lib.hid hst; have Hsc := Lib.hid hsc; have HC := Lib.hid hcell
  have H0 := Lib.hid r0; have H1 := Lib.hid r1; have H2 := Lib.hid r2; have H3 := Lib.hid r3; have H4 := Lib.hid r4
  clear hst hsc hcell r0 r1 r2 r3 r4
  go_enter Try.func7, Try.ntmps7
  go_wp2_with (at_make; refine wpList_make_full _ rfl _ _ 38 rfl w.heap.size 43 j0 (.agg #[.int .u64 0]) 1 Try.underlying38 hj hy0 hy1 .i64 .i64 _ _ n rfl rfl rfl rfl (by rw [hy2]; omega) (by simp only [maxLen]; omega) (Nat.le_refl _) ?_)
  intro w1 ho hg
  rw [made_u64] at ho
  have hb := (Below.refl w.heap.size w).grown hg (Nat.le_refl _) (by simp)
  have ho1 : Owns w1 w.heap.size [⟨43, some ⟨w.heap.size, 0, none⟩, n, n, U (List.replicate n 0)⟩] := ⟨by simpa [Row.val] using ho, by simp⟩
  clear ho hg
  go_wp2
  go_loopw [26] (fun i wr => ∃ k : Nat, k ≤ n ∧ i = .int .i64 k ∧ Owns wr w.heap.size [⟨43, some ⟨w.heap.size, 0, none⟩, n, n, U (st.take k ++ List.replicate (n - k) 0)⟩] ∧ Below w.heap.size w wr) (fun i _ => n - (intOf i).toNat)
  case atStart => exact ⟨0, Nat.zero_le _, rfl, by simpa using ho1, hb⟩
  case round =>
    clear ho1 hb
    obtain ⟨k, hk, rfl, ho, hb⟩ := hrel
    by_cases hlt : k < n
    · have lx : k < st.length := by rw [Hst.out]; exact hlt
      obtain ⟨b0, o0, rfl, hc0⟩ := at_u64 H0.out hb (Nat.le_refl _) lx
      have hj : k < (st.take k ++ List.replicate (n - k) 0).length := by simp; omega
      have hsz := hb.size
      go_wp2_with (go_at_call 10; refine (store_own (p := []) (q := []) ho hj st[k]).mono ?_; rintro e w2 ⟨rfl, ho2, hb2⟩)
      rw [fill_step Hst.out lx] at ho2
      go_wp2
      go_roundw
      case rel => exact ⟨k + 1, by omega, by go_num, ho2, hb.trans hb2⟩
      case measure => simp [intOf]; omega
    · rw [fill_end Hst.out hlt] at ho
      have hB := hb.size
      have hp := Lib.hid (Owns.made ho hB 28 #[] (by simp))
      have hbp := Lib.hid (hb.alloc hB (.cells #[] 28))
      clear ho
      obtain ⟨wo, rfl⟩ : ∃ wo : World, wo = wr := ⟨_, rfl⟩
      clear hb hB
      go_wp2
      go_loopw [40, 15] (fun i v wr => ∃ (k : Nat) (a : Option Addr) (c : Nat), k ≤ m ∧ i = .int .i64 k ∧ v = .slice a k c ∧ Owns wr w.heap.size [⟨43, some ⟨w.heap.size, 0, none⟩, n, n, U (runL st (sc.take k)).2⟩, ⟨28, a, k, c, U (runL st (sc.take k)).1⟩] ∧ Below w.heap.size w wr) (fun i _ _ => m - (intOf i).toNat)
      case atStart => exact ⟨0, _, _, Nat.zero_le _, rfl, rfl, by simpa [runL] using hp.out, hbp.out⟩
      case round =>
        obtain ⟨k, a, c, hk, rfl, rfl, ho, hb⟩ := hrel
        have hsz := hb.size
        by_cases hlt : k < m
        · have lx : k < sc.length := by rw [Hsc.out]; exact hlt
          obtain ⟨κ, cl, x, y, hcall⟩ : ∃ κ cl x y, sc[k] = ⟨κ, cl, x, y⟩ := ⟨_, _, _, _, rfl⟩
          have hcn : cl < n := by have := HC.out _ (List.getElem_mem lx); rw [hcall] at this; exact this
          obtain ⟨b1, o1, rfl, c1⟩ := at_u8 H1.out hb (Nat.le_refl _) (k := k) (by simpa [kindsOf] using lx)
          obtain ⟨b2, o2, rfl, c2⟩ := at_int H2.out hb (Nat.le_refl _) (k := k) (by simpa [cellsOf] using lx)
          obtain ⟨b3, o3, rfl, c3⟩ := at_u64 H3.out hb (Nat.le_refl _) (k := k) (by simpa [asOf] using lx)
          obtain ⟨b4, o4, rfl, c4⟩ := at_u64 H4.out hb (Nat.le_refl _) (k := k) (by simpa [bsOf] using lx)
          simp only [kindsOf, cellsOf, asOf, bsOf, List.getElem_map, hcall] at c1 c2 c3 c4
          generalize hS : (runL st (sc.take k)).2 = S at *
          generalize hA : (runL st (sc.take k)).1 = A at *
          have hcl : cl < S.length := by rw [← hS, runL_snd_length, Hst.out]; exact hcn
          have HK := Lib.hid hcall; have HS := Lib.hid hS; have HA := Lib.hid hA
          obtain ⟨o, hO⟩ : ∃ o, S.getD cl 0 = o := ⟨_, rfl⟩
          have HO := Lib.hid hO
          clear hcall hS hA hO
          by_cases h1 : κ = 1#8
          · subst h1
            replace c1 : wr.cell? ⟨b1, o1 + k, none⟩ = some (.int .u8 1) := by simpa using c1
            go_wp2_with (first | (go_at_call 10; refine (store_own (p := []) (q := [_]) ho hcl x).mono ?_; rintro e w2 ⟨rfl, ho2, hb2⟩; have hsz2 := hb2.size) | (at_builtin; refine wpList_append_at _ rfl _ _ 22 rfl 28 i0 (.int .u64 0) 8 Try.underlying22 hi hz0 hz1 hz2 rfl (by decide) w.heap.size [_] [] ⟨28, a, k, c, _⟩ rfl rfl (Owns.alloc ho2 _) _ 1 1 [_] rfl rfl (by simp) (Rd.one _ _ _) (by simp [Value.oneCell']) (by simp; omega) (by simp; omega) ?_))
            intro a' c' w3 ho3 hb3
            have hT := (hb.trans hb2).trans (((Below.refl w.heap.size w2).alloc (by omega) _).trans hb3)
            have hR := rel_step lx HS.out HA.out HK.out HO.out (by rw [Call.step1 _ _ rfl]) (by simpa using ho3)
            clear ho3 hb3 ho
            go_wp2
            go_roundw
            case rel => exact ⟨k + 1, a', c', by omega, by go_num, rfl, hR, hT⟩
            case measure => simp [intOf]; omega
          by_cases h2 : κ = 2#8
          · subst h2
            replace c1 : wr.cell? ⟨b1, o1 + k, none⟩ = some (.int .u8 2) := by simpa using c1
            obtain ⟨z, hz⟩ : ∃ z, o + x = z := ⟨_, rfl⟩
            have HZ := Lib.hid hz
            clear hz
            go_wp2_with (first | (go_at_call 12; refine (add_own (p := []) (q := [_]) ho hcl x o z HO.out HZ.out).mono ?_; rintro e w2 ⟨rfl, ho2, hb2⟩; have hsz2 := hb2.size) | (at_builtin; refine wpList_append_at _ rfl _ _ 22 rfl 28 i0 (.int .u64 0) 8 Try.underlying22 hi hz0 hz1 hz2 rfl (by decide) w.heap.size [_] [] ⟨28, a, k, c, _⟩ rfl rfl (Owns.alloc ho2 _) _ 1 1 [_] rfl rfl (by simp) (Rd.one _ _ _) (by simp [Value.oneCell']) (by simp; omega) (by simp; omega) ?_))
            intro a' c' w3 ho3 hb3
            have hT := (hb.trans hb2).trans (((Below.refl w.heap.size w2).alloc (by omega) _).trans hb3)
            have hR := rel_step lx HS.out HA.out HK.out HO.out (by rw [Call.step2 _ _ rfl, HZ.out]) (by simpa using ho3)
            clear ho3 hb3 ho
            go_wp2
            go_roundw
            case rel => exact ⟨k + 1, a', c', by omega, by go_num, rfl, hR, hT⟩
            case measure => simp [intOf]; omega
          by_cases h3 : κ = 3#8
          · subst h3
            replace c1 : wr.cell? ⟨b1, o1 + k, none⟩ = some (.int .u8 3) := by simpa using c1
            go_wp2_with (first | (go_at_call 13; refine (swap_own (p := []) (q := [_]) ho hcl x o HO.out).mono ?_; rintro e w2 ⟨rfl, ho2, hb2⟩; have hsz2 := hb2.size) | (at_builtin; refine wpList_append_at _ rfl _ _ 22 rfl 28 i0 (.int .u64 0) 8 Try.underlying22 hi hz0 hz1 hz2 rfl (by decide) w.heap.size [_] [] ⟨28, a, k, c, _⟩ rfl rfl (Owns.alloc ho2 _) _ 1 1 [_] rfl rfl (by simp) (Rd.one _ _ _) (by simp [Value.oneCell']) (by simp; omega) (by simp; omega) ?_))
            intro a' c' w3 ho3 hb3
            have hT := (hb.trans hb2).trans (((Below.refl w.heap.size w2).alloc (by omega) _).trans hb3)
            have hR := rel_step lx HS.out HA.out HK.out HO.out (by rw [Call.step3 _ _ rfl]) (by simpa using ho3)
            clear ho3 hb3 ho
            go_wp2
            go_roundw
            case rel => exact ⟨k + 1, a', c', by omega, by go_num, rfl, hR, hT⟩
            case measure => simp [intOf]; omega
          by_cases h5 : κ = 5#8
          · subst h5
            replace c1 : wr.cell? ⟨b1, o1 + k, none⟩ = some (.int .u8 5) := by simpa using c1
            obtain ⟨z, hz⟩ : ∃ z, o &&& x = z := ⟨_, rfl⟩
            have HZ := Lib.hid hz
            clear hz
            go_wp2_with (first | (go_at_call 15; refine (and_own (p := []) (q := [_]) ho hcl x o z HO.out HZ.out).mono ?_; rintro e w2 ⟨rfl, ho2, hb2⟩; have hsz2 := hb2.size) | (at_builtin; refine wpList_append_at _ rfl _ _ 22 rfl 28 i0 (.int .u64 0) 8 Try.underlying22 hi hz0 hz1 hz2 rfl (by decide) w.heap.size [_] [] ⟨28, a, k, c, _⟩ rfl rfl (Owns.alloc ho2 _) _ 1 1 [_] rfl rfl (by simp) (Rd.one _ _ _) (by simp [Value.oneCell']) (by simp; omega) (by simp; omega) ?_))
            intro a' c' w3 ho3 hb3
            have hT := (hb.trans hb2).trans (((Below.refl w.heap.size w2).alloc (by omega) _).trans hb3)
            have hR := rel_step lx HS.out HA.out HK.out HO.out (by rw [Call.step5 _ _ rfl, HZ.out]) (by simpa using ho3)
            clear ho3 hb3 ho
            go_wp2
            go_roundw
            case rel => exact ⟨k + 1, a', c', by omega, by go_num, rfl, hR, hT⟩
            case measure => simp [intOf]; omega
          by_cases h6 : κ = 6#8
          · subst h6
            replace c1 : wr.cell? ⟨b1, o1 + k, none⟩ = some (.int .u8 6) := by simpa using c1
            obtain ⟨z, hz⟩ : ∃ z, o ||| x = z := ⟨_, rfl⟩
            have HZ := Lib.hid hz
            clear hz
            go_wp2_with (first | (go_at_call 16; refine (or_own (p := []) (q := [_]) ho hcl x o z HO.out HZ.out).mono ?_; rintro e w2 ⟨rfl, ho2, hb2⟩; have hsz2 := hb2.size) | (at_builtin; refine wpList_append_at _ rfl _ _ 22 rfl 28 i0 (.int .u64 0) 8 Try.underlying22 hi hz0 hz1 hz2 rfl (by decide) w.heap.size [_] [] ⟨28, a, k, c, _⟩ rfl rfl (Owns.alloc ho2 _) _ 1 1 [_] rfl rfl (by simp) (Rd.one _ _ _) (by simp [Value.oneCell']) (by simp; omega) (by simp; omega) ?_))
            intro a' c' w3 ho3 hb3
            have hT := (hb.trans hb2).trans (((Below.refl w.heap.size w2).alloc (by omega) _).trans hb3)
            have hR := rel_step lx HS.out HA.out HK.out HO.out (by rw [Call.step6 _ _ rfl, HZ.out]) (by simpa using ho3)
            clear ho3 hb3 ho
            go_wp2
            go_roundw
            case rel => exact ⟨k + 1, a', c', by omega, by go_num, rfl, hR, hT⟩
            case measure => simp [intOf]; omega
          by_cases h0 : κ = 0#8
          · subst h0
            replace c1 : wr.cell? ⟨b1, o1 + k, none⟩ = some (.int .u8 0) := by simpa using c1
            go_wp2_with (first | (go_at_call 11; refine (load_own (p := []) (q := [_]) ho hcl o HO.out).mono ?_; rintro e w2 ⟨rfl, rfl⟩) | (at_builtin; refine wpList_append_at _ rfl _ _ 22 rfl 28 i0 (.int .u64 0) 8 Try.underlying22 hi hz0 hz1 hz2 rfl (by decide) w.heap.size [_] [] ⟨28, a, k, c, _⟩ rfl rfl (Owns.alloc ho _) _ 1 1 [_] rfl rfl (by simp) (Rd.one _ _ _) (by simp [Value.oneCell']) (by simp; omega) (by simp; omega) ?_))
            intro a' c' w3 ho3 hb3
            have hT := hb.trans (((Below.refl w.heap.size wr).alloc hsz _).trans hb3)
            have hss := set_same (st := S) (j := cl)
            rw [HO.out] at hss
            rw [← hss] at ho3
            have hR := rel_step lx HS.out HA.out HK.out HO.out (Call.step0 _ _ rfl) (by simpa using ho3)
            clear ho3 hb3 ho
            go_wp2
            go_roundw
            case rel => exact ⟨k + 1, a', c', by omega, by go_num, rfl, hR, hT⟩
            case measure => simp [intOf]; omega
          by_cases h4 : κ = 4#8
          · subst h4
            replace c1 : wr.cell? ⟨b1, o1 + k, none⟩ = some (.int .u8 4) := by simpa using c1
            by_cases hq : o = x
            · obtain rfl := hq
              go_wp2
              go_still_tail 9, (by kernel_rfl)
              go_wp2_with (first | (go_at_call 14; refine (hit_own (p := []) (q := [_]) ho.drew hcl y o HO.out).mono ?_; rintro e w2 ⟨rfl, ho2, hb2⟩; have hsz2 : wr.heap.size ≤ w2.heap.size := hb2.size) | (at_builtin; refine wpList_append_at _ rfl _ _ 22 rfl 28 i0 (.int .u64 0) 8 Try.underlying22 hi hz0 hz1 hz2 rfl (by decide) w.heap.size [_] [] ⟨28, a, k, c, _⟩ rfl rfl (Owns.alloc ho2 _) _ 1 1 [_] rfl rfl (by simp) (Rd.one _ _ _) (by simp [Value.oneCell']) (by simp; omega) (by simp; omega) ?_))
              intro a' c' w3 ho3 hb3
              have hT := (hb.drew.trans hb2).trans (((Below.refl w.heap.size w2).alloc (by omega) _).trans hb3)
              have hR := rel_step lx HS.out HA.out HK.out HO.out (by rw [Call.step4 _ _ rfl, if_pos rfl]) (by simpa using ho3)
              clear ho3 hb3 ho
              go_wp2
              go_roundw
              case rel => exact ⟨k + 1, a', c', by omega, by go_num, rfl, hR, hT⟩
              case measure => simp [intOf]; omega
            · have HQ := Lib.hid hq
              clear hq
              go_wp2
              go_still_tail 9, (by kernel_rfl)
              go_wp2_with (first | (go_at_call 14; refine (miss_own (p := []) (q := [_]) ho.drew hcl y o x HO.out HQ.out).mono ?_; rintro e w2 ⟨rfl, rfl⟩) | (at_builtin; refine wpList_append_at _ rfl _ _ 22 rfl 28 i0 (.int .u64 0) 8 Try.underlying22 hi hz0 hz1 hz2 rfl (by decide) w.heap.size [_] [] ⟨28, a, k, c, _⟩ rfl rfl (Owns.alloc ho.drew _) _ 1 1 [_] rfl rfl (by simp) (Rd.one _ _ _) (by simp [Value.oneCell']) (by simp; omega) (by simp; omega) ?_))
              intro a' c' w3 ho3 hb3
              have hT := hb.trans (((Below.refl w.heap.size wr).drew.alloc hsz _).trans hb3)
              have hss := set_same (st := S) (j := cl)
              rw [HO.out] at hss
              rw [← hss] at ho3
              have hR := rel_step lx HS.out HA.out HK.out HO.out (by rw [Call.step4 _ _ rfl, if_neg HQ.out]) (by simpa using ho3)
              clear ho3 hb3 ho
              go_wp2
              go_roundw
              case rel => exact ⟨k + 1, a', c', by omega, by go_num, rfl, hR, hT⟩
              case measure => simp [intOf]; omega
          have t0 : ((κ.toNat : Int) == 0) = false := by rw [beq_eq_false_iff_ne]; intro h; exact h0 (BitVec.eq_of_toNat_eq (by simp; omega))
          have t1 : ((κ.toNat : Int) == 1) = false := by rw [beq_eq_false_iff_ne]; intro h; exact h1 (BitVec.eq_of_toNat_eq (by simp; omega))
          have t2 : ((κ.toNat : Int) == 2) = false := by rw [beq_eq_false_iff_ne]; intro h; exact h2 (BitVec.eq_of_toNat_eq (by simp; omega))
          have t3 : ((κ.toNat : Int) == 3) = false := by rw [beq_eq_false_iff_ne]; intro h; exact h3 (BitVec.eq_of_toNat_eq (by simp; omega))
          have t4 : ((κ.toNat : Int) == 4) = false := by rw [beq_eq_false_iff_ne]; intro h; exact h4 (BitVec.eq_of_toNat_eq (by simp; omega))
          have t5 : ((κ.toNat : Int) == 5) = false := by rw [beq_eq_false_iff_ne]; intro h; exact h5 (BitVec.eq_of_toNat_eq (by simp; omega))
          have t6 : ((κ.toNat : Int) == 6) = false := by rw [beq_eq_false_iff_ne]; intro h; exact h6 (BitVec.eq_of_toNat_eq (by simp; omega))
          have HD := Lib.hid (And.intro h0 (And.intro h1 (And.intro h2 (And.intro h3 (And.intro h4 (And.intro h5 h6))))))
          clear h0 h1 h2 h3 h4 h5 h6
          go_wp2_with ((at_builtin; refine wpList_append_at _ rfl _ _ 22 rfl 28 i0 (.int .u64 0) 8 Try.underlying22 hi hz0 hz1 hz2 rfl (by decide) w.heap.size [_] [] ⟨28, a, k, c, _⟩ rfl rfl (Owns.alloc ho _) _ 1 1 [_] rfl rfl (by simp) (Rd.one _ _ _) (by simp [Value.oneCell']) (by simp; omega) (by simp; omega) ?_))
          intro a' c' w3 ho3 hb3
          have hT := hb.trans (((Below.refl w.heap.size wr).alloc hsz _).trans hb3)
          have hss := set_same (st := S) (j := cl)
          rw [HO.out] at hss
          rw [← hss] at ho3
          have hR := rel_step lx HS.out HA.out HK.out HO.out (Call.step7 _ _ HD.out.1 HD.out.2.1 HD.out.2.2.1 HD.out.2.2.2.1 HD.out.2.2.2.2.1 HD.out.2.2.2.2.2.1 HD.out.2.2.2.2.2.2) (by simpa using ho3)
          clear ho3 hb3 ho
          go_wp2
          go_roundw
          case rel => exact ⟨k + 1, a', c', by omega, by go_num, rfl, hR, hT⟩
          case measure => simp [intOf]; omega
        · rw [List.take_of_length_le (by rw [Hsc.out]; omega)] at ho
          obtain rfl : k = m := by omega
          generalize hS : (runL st sc).2 = S at *
          generalize hA : (runL st sc).1 = A at *
          have HS : Hid (S.length = n) := by show _ = _; rw [← hS, runL_snd_length, Hst.out]
          clear hS hA
          have hp := Lib.hid (Owns.made ho hsz 28 #[] (by simp))
          have hbp := Lib.hid (hb.alloc hsz (.cells #[] 28))
          obtain ⟨wx, rfl⟩ : ∃ wx : World, wx = wr := ⟨_, rfl⟩
          clear ho hb hsz
          go_wp2
          go_loopw [139, 19] (fun i v wr => ∃ (j : Nat) (a' : Option Addr) (c' : Nat), j ≤ n ∧ i = .int .i64 j ∧ v = .slice a' j c' ∧ Owns wr w.heap.size [⟨43, some ⟨w.heap.size, 0, none⟩, n, n, U S⟩, ⟨28, a, k, c, U A⟩, ⟨28, a', j, c', U (S.take j)⟩] ∧ Below w.heap.size w wr) (fun i _ _ => n - (intOf i).toNat)
          case atStart => exact ⟨0, _, _, Nat.zero_le _, rfl, rfl, by simpa using hp.out, hbp.out⟩
          case round =>
            clear hp hbp
            obtain ⟨j, a', c', hj', rfl, rfl, ho, hb⟩ := hrel
            have hsz := hb.size
            by_cases hlt : j < n
            · have lx : j < S.length := by rw [HS.out]; exact hlt
              obtain ⟨o, hO⟩ : ∃ o, S.getD j 0 = o := ⟨_, rfl⟩
              have HO := Lib.hid hO
              clear hO
              go_wp2_with (first | (go_at_call 11; refine (load_own (p := []) (q := [_, _]) ho lx o HO.out).mono ?_; rintro e w2 ⟨rfl, rfl⟩) | (at_builtin; refine wpList_append_at _ rfl _ _ 22 rfl 28 i0 (.int .u64 0) 8 Try.underlying22 hi hz0 hz1 hz2 rfl (by decide) w.heap.size [_, _] [] ⟨28, a', j, c', _⟩ rfl rfl (Owns.alloc ho _) _ 1 1 [_] rfl rfl (by simp) (Rd.one _ _ _) (by simp [Value.oneCell']) (by simp; omega) (by simp; omega) ?_))
              intro a2 c2 w3 ho3 hb3
              have hT := hb.trans (((Below.refl w.heap.size wr).alloc hsz _).trans hb3)
              have hR : Owns w3 w.heap.size [⟨43, some ⟨w.heap.size, 0, none⟩, n, n, U S⟩, ⟨28, a, k, c, U A⟩, ⟨28, a2, j + 1, c2, U (S.take (j + 1))⟩] := by
                rw [List.take_succ_eq_append_getElem lx, U_snoc, show S[j] = o by rw [← HO.out]; simp [lx]]
                simpa using ho3
              clear ho3 hb3 ho
              go_wp2
              go_roundw
              case rel => exact ⟨j + 1, a2, c2, by omega, by go_num, rfl, hR, hT⟩
              case measure => simp [intOf]; omega
            · rw [List.take_of_length_le (by rw [HS.out]; omega)] at ho
              obtain rfl : j = n := by omega
              have HR := Lib.hid (ho.drop (L' := [⟨28, a, k, c, U A⟩, ⟨28, a', j, c', U S⟩]) (by simp))
              have HB := Lib.hid hb
              clear ho hb
              go_wp2
              go_ret2
              exact ⟨a, c, a', c', rfl, HR.out, HB.out⟩
end Go.Proofs.Ytjciefonlhhoaaa
