/-
  The contracts of the methods of atomic.Int64 and of RunSigned: as those of Uint64, the words read with a sign.
-/
import Derived.Test.YtjjmjjbeecmmlacRun
namespace Go.Proofs.Ytjjmjjbeecmmlac
set_option linter.unusedVariables false
set_option linter.unusedSimpArgs false
open Go.RowKit

/-- A list of words as cells of numbers with a sign. -/
def I64 (xs : List (BitVec 64)) : List Value := xs.map fun x => .int .i64 x.toInt
section
variable {xs ys : List (BitVec 64)} {i : Nat}
@[simp] theorem I64_length : (I64 xs).length = xs.length := by simp [I64]
@[simp] theorem I64_nil : I64 [] = [] := rfl
theorem I64_snoc (x : BitVec 64) : I64 (xs ++ [x]) = I64 xs ++ [.int .i64 x.toInt] := by simp [I64]
theorem I64_get (h : i < xs.length) : (I64 xs)[i]? = some (.int .i64 xs[i].toInt) := by simp [I64, h]
theorem I64_set (x : BitVec 64) : (I64 xs).set i (.int .i64 x.toInt) = I64 (xs.set i x) := by simp [I64, List.map_set]
end
theorem infoI : (Try.prog.info? 2).map (fun i => (i.zero, i.size, i.bytes)) = some (some (.int .i64 0), 1, 8) := by kernel_rfl
theorem infoAI : (Try.prog.info? 67).map (fun i => (i.zero, i.size, i.bytes)) = some (some (.agg #[.int .i64 0]), 1, 8) := by kernel_rfl
theorem made_i64 (n : Nat) : (madeCells #[.int .i64 0] n).toList = I64 (List.replicate n 0) := by
  simp only [madeCells, I64]
  rw [List.map_replicate]
  apply List.ext_getElem
  · simp
  · intro i h1 h2
    simp [Nat.mod_one]
theorem at_i64 {w0 w : World} {B : Nat} {a : Option Addr} {xs : List (BitVec 64)} (h : Rd w0 a (I64 xs)) (hb : Below B w0 w) (hB : w0.heap.size ≤ B) {k : Nat} (hk : k < xs.length) :
    ∃ b off, a = some ⟨b, off, none⟩ ∧ w.cell? ⟨b, off + k, none⟩ = some (.int .i64 xs[k].toInt) := by
  obtain ⟨b, off, he, hc⟩ := (h.mono hb hB) k (by simpa using hk)
  exact ⟨b, off, he, by rw [hc, I64_get hk]⟩

/-! Numbers -/
theorem i64_wrap (r : BitVec 64) : IntKind.i64.wrap (r.toNat : Int) = r.toInt := by
  rw [IntKind.wrap_i64, BitVec.toInt_eq_toNat_cond]
  have := r.isLt
  split <;> omega
theorem i64_add (x y : BitVec 64) : IntKind.i64.wrap (x.toInt + y.toInt) = (x + y).toInt := by
  rw [IntKind.wrap_i64, BitVec.toInt_add]
  unfold Int.bmod
  simp only []
  split <;> omega
theorem run_add_i64 {P : Program} (x y : BitVec 64) (w : World) : (Op.intArith .add .i64 x.toInt y.toInt).run P w = .ok (.int .i64 (x + y).toInt) w := by
  simp only [Op.intArith, i64_add]
  rfl
theorem run_and_i64 {P : Program} (x y : BitVec 64) (w : World) : (Op.intBits .and .i64 x.toInt y.toInt).run P w = .ok (.int .i64 (x &&& y).toInt) w := by
  show Sem.run P (pure (Value.int .i64 (IntKind.i64.wrap ((BitVec.ofInt 64 x.toInt &&& BitVec.ofInt 64 y.toInt).toNat : Int)))) w = _
  rw [BitVec.ofInt_toInt, BitVec.ofInt_toInt, i64_wrap]
  rfl
theorem run_or_i64 {P : Program} (x y : BitVec 64) (w : World) : (Op.intBits .or .i64 x.toInt y.toInt).run P w = .ok (.int .i64 (x ||| y).toInt) w := by
  show Sem.run P (pure (Value.int .i64 (IntKind.i64.wrap ((BitVec.ofInt 64 x.toInt ||| BitVec.ofInt 64 y.toInt).toNat : Int)))) w = _
  rw [BitVec.ofInt_toInt, BitVec.ofInt_toInt, i64_wrap]
  rfl

section
variable (b j : Nat) (w : World)

theorem store_anyS (u : Value) (y : BitVec 64) (hc : w.cell? ⟨b, j, none⟩ = some u) (hz : w.frozen? ⟨b, j, none⟩ = false) :
    Calls Try.prog 32 #[.pointer (some ⟨b, j, none⟩), .int .i64 y.toInt] w fun e w' => e = .returned (.tuple #[]) ∧ w.setCell ⟨b, j, none⟩ (.int .i64 y.toInt) = w' := by
  have hst := run_call_store (P := Try.prog) Try.func46 (by kernel_rfl) (by kernel_rfl) (by kernel_rfl) (by kernel_rfl) (k := .i64) (y := y.toInt) hc hz
  go_enter Try.func32, Try.ntmps32
  go_wp2
  go_end0
  exact ⟨rfl, rfl⟩

theorem load_anyS (x : BitVec 64) (hc : w.cell? ⟨b, j, none⟩ = some (.int .i64 x.toInt)) :
    Calls Try.prog 33 #[.pointer (some ⟨b, j, none⟩)] w fun e w' => e = .returned (.int .i64 x.toInt) ∧ w = w' := by
  have hst := run_call_load (P := Try.prog) Try.func47 (by kernel_rfl) (by kernel_rfl) (by kernel_rfl) .i64 (by kernel_rfl) hc
  go_enter Try.func33, Try.ntmps33
  go_wp2
  go_ret
  exact ⟨rfl, rfl⟩

theorem add_anyS (x y : BitVec 64) (hc : w.cell? ⟨b, j, none⟩ = some (.int .i64 x.toInt)) (hz : w.frozen? ⟨b, j, none⟩ = false) :
    Calls Try.prog 34 #[.pointer (some ⟨b, j, none⟩), .int .i64 y.toInt] w fun e w' => e = .returned (.int .i64 (x + y).toInt) ∧ w.setCell ⟨b, j, none⟩ (.int .i64 (x + y).toInt) = w' := by
  have hst := run_call_add (P := Try.prog) Try.func48 (by kernel_rfl) (by kernel_rfl) (by kernel_rfl) .i64 (by kernel_rfl) hc hz (run_add_i64 x y w)
  generalize x + y = z at *
  go_enter Try.func34, Try.ntmps34
  go_wp2
  go_ret
  exact ⟨rfl, rfl⟩

theorem swap_anyS (x y : BitVec 64) (hc : w.cell? ⟨b, j, none⟩ = some (.int .i64 x.toInt)) (hz : w.frozen? ⟨b, j, none⟩ = false) :
    Calls Try.prog 35 #[.pointer (some ⟨b, j, none⟩), .int .i64 y.toInt] w fun e w' => e = .returned (.int .i64 x.toInt) ∧ w.setCell ⟨b, j, none⟩ (.int .i64 y.toInt) = w' := by
  have hst := run_call_swap (P := Try.prog) Try.func49 (by kernel_rfl) (by kernel_rfl) (by kernel_rfl) .i64 (by kernel_rfl) (y := y.toInt) hc hz
  go_enter Try.func35, Try.ntmps35
  go_wp2
  go_ret
  exact ⟨rfl, rfl⟩

theorem or_anyS (x y : BitVec 64) (hc : w.cell? ⟨b, j, none⟩ = some (.int .i64 x.toInt)) (hz : w.frozen? ⟨b, j, none⟩ = false) :
    Calls Try.prog 38 #[.pointer (some ⟨b, j, none⟩), .int .i64 y.toInt] w fun e w' => e = .returned (.int .i64 x.toInt) ∧ w.setCell ⟨b, j, none⟩ (.int .i64 (x ||| y).toInt) = w' := by
  have hst := run_call_bits (P := Try.prog) Try.func52 (by kernel_rfl) (by kernel_rfl) (by kernel_rfl) .i64 .or (by kernel_rfl) hc hz (run_or_i64 x y w)
  generalize x ||| y = z at *
  go_enter Try.func38, Try.ntmps38
  go_wp2
  go_ret
  exact ⟨rfl, rfl⟩

theorem cas_hitS (x y : BitVec 64) (hc : w.cell? ⟨b, j, none⟩ = some (.int .i64 x.toInt)) (hz : w.frozen? ⟨b, j, none⟩ = false) :
    Calls Try.prog 36 #[.pointer (some ⟨b, j, none⟩), .int .i64 x.toInt, .int .i64 y.toInt] w fun e w' => e = .returned (.bool true) ∧ w.setCell ⟨b, j, none⟩ (.int .i64 y.toInt) = w' := by
  have hst := run_call_cas_hit (P := Try.prog) Try.func50 (by kernel_rfl) (by kernel_rfl) (by kernel_rfl) .i64 (by kernel_rfl) (y := y.toInt) hc hz
  go_enter Try.func36, Try.ntmps36
  go_wp2
  go_ret
  exact ⟨rfl, rfl⟩

theorem cas_missS (x o y : BitVec 64) (hc : w.cell? ⟨b, j, none⟩ = some (.int .i64 x.toInt)) (hz : w.frozen? ⟨b, j, none⟩ = false) (hne : ¬ x = o) :
    Calls Try.prog 36 #[.pointer (some ⟨b, j, none⟩), .int .i64 o.toInt, .int .i64 y.toInt] w fun e w' => e = .returned (.bool false) ∧ w = w' := by
  have hne' : ¬ x.toInt = o.toInt := by
    exact fun h => hne (BitVec.eq_of_toInt_eq h)
  have hst := run_call_cas_miss (P := Try.prog) Try.func50 (by kernel_rfl) (by kernel_rfl) (by kernel_rfl) .i64 (by kernel_rfl) (y := y.toInt) hc hz hne'
  clear hne hne'
  go_enter Try.func36, Try.ntmps36
  go_wp2
  go_ret
  exact ⟨rfl, rfl⟩
end

/-! The same on a row of words among rows of the call's own. -/
theorem words_cellS {w : World} {B E b n c j : Nat} {p q : List Row} {st : List (BitVec 64)} (h : Owns w B (p ++ ⟨E, some ⟨b, 0, none⟩, n, c, I64 st⟩ :: q)) (hj : j < st.length) :
    w.cell? ⟨b, j, none⟩ = some (.int .i64 (st.getD j 0).toInt) ∧ w.frozen? ⟨b, j, none⟩ = false := by
  obtain ⟨h1, h2, h3⟩ := h.rd (r := ⟨E, some ⟨b, 0, none⟩, n, c, I64 st⟩) (by simp)
  obtain ⟨b', off', he, hc⟩ := h1 j (by simpa using hj)
  simp only [Option.some.injEq, Addr.mk.injEq, and_true] at he
  obtain ⟨rfl, rfl⟩ := he
  refine ⟨?_, (h3 b 0 rfl).2.2.2 j⟩
  rw [Nat.zero_add] at hc
  rw [hc, I64_get hj]
  simp [hj]

section
variable {w : World} {B E b n c j : Nat} {p q : List Row} {st : List (BitVec 64)} (h : Owns w B (p ++ ⟨E, some ⟨b, 0, none⟩, n, c, I64 st⟩ :: q)) (hj : j < st.length) (y : BitVec 64)
include h hj

/-- What a method leaves: its answer; the row with one word set. -/
def WroteS (w : World) (B E b n c : Nat) (p q : List Row) (st : List (BitVec 64)) (v : Value) (en : Ending) (w' : World) : Prop :=
  en = .returned v ∧ Owns w' B (p ++ ⟨E, some ⟨b, 0, none⟩, n, c, I64 st⟩ :: q) ∧ Below B w w'

theorem wrote_ofS (x : BitVec 64) (v : Value) {en : Ending} {w' : World} (he : en = .returned v) (hw : w.setCell ⟨b, j, none⟩ (.int .i64 x.toInt) = w') : WroteS w B E b n c p q (st.set j x) v en w' := by
  have := hj
  obtain ⟨h1, h2⟩ := Owns.stored h (b := b) (off := 0) rfl j (.int .i64 x.toInt)
  subst hw
  refine ⟨he, ?_, h2⟩
  simpa [I64_set] using h1

theorem load_ownS (o : BitVec 64) (ho : st.getD j 0 = o) : Calls Try.prog 33 #[.pointer (some ⟨b, j, none⟩)] w fun e w' => e = .returned (.int .i64 o.toInt) ∧ w = w' := by
  subst ho
  exact load_anyS b j w _ (words_cellS h hj).1
theorem store_ownS : Calls Try.prog 32 #[.pointer (some ⟨b, j, none⟩), .int .i64 y.toInt] w (WroteS w B E b n c p q (st.set j y) (.tuple #[])) :=
  (store_anyS b j w _ y (words_cellS h hj).1 (words_cellS h hj).2).mono fun _ _ ⟨he, hw⟩ => wrote_ofS h hj _ _ he hw
theorem add_ownS (o z : BitVec 64) (ho : st.getD j 0 = o) (hz : o + y = z) : Calls Try.prog 34 #[.pointer (some ⟨b, j, none⟩), .int .i64 y.toInt] w (WroteS w B E b n c p q (st.set j z) (.int .i64 z.toInt)) := by
  subst ho hz
  exact (add_anyS b j w _ y (words_cellS h hj).1 (words_cellS h hj).2).mono fun _ _ ⟨he, hw⟩ => wrote_ofS h hj _ _ he hw
theorem swap_ownS (o : BitVec 64) (ho : st.getD j 0 = o) : Calls Try.prog 35 #[.pointer (some ⟨b, j, none⟩), .int .i64 y.toInt] w (WroteS w B E b n c p q (st.set j y) (.int .i64 o.toInt)) := by
  subst ho
  exact (swap_anyS b j w _ y (words_cellS h hj).1 (words_cellS h hj).2).mono fun _ _ ⟨he, hw⟩ => wrote_ofS h hj _ _ he hw
theorem or_ownS (o z : BitVec 64) (ho : st.getD j 0 = o) (hz : o ||| y = z) : Calls Try.prog 38 #[.pointer (some ⟨b, j, none⟩), .int .i64 y.toInt] w (WroteS w B E b n c p q (st.set j z) (.int .i64 o.toInt)) := by
  subst ho hz
  exact (or_anyS b j w _ y (words_cellS h hj).1 (words_cellS h hj).2).mono fun _ _ ⟨he, hw⟩ => wrote_ofS h hj _ _ he hw
theorem hit_ownS (x : BitVec 64) (hx : st.getD j 0 = x) : Calls Try.prog 36 #[.pointer (some ⟨b, j, none⟩), .int .i64 x.toInt, .int .i64 y.toInt] w (WroteS w B E b n c p q (st.set j y) (.bool true)) := by
  subst hx
  exact (cas_hitS b j w _ y (words_cellS h hj).1 (words_cellS h hj).2).mono fun _ _ ⟨he, hw⟩ => wrote_ofS h hj _ _ he hw
theorem miss_ownS (o x : BitVec 64) (ho : st.getD j 0 = o) (hx : ¬ o = x) : Calls Try.prog 36 #[.pointer (some ⟨b, j, none⟩), .int .i64 x.toInt, .int .i64 y.toInt] w fun e w' => e = .returned (.bool false) ∧ w = w' := by
  subst ho
  exact cas_missS b j w _ x y (words_cellS h hj).1 (words_cellS h hj).2 hx
end

theorem and_anyS (b j : Nat) (w : World) (x y : BitVec 64) (hc : w.cell? ⟨b, j, none⟩ = some (.int .i64 x.toInt)) (hz : w.frozen? ⟨b, j, none⟩ = false) :
    Calls Try.prog 37 #[.pointer (some ⟨b, j, none⟩), .int .i64 y.toInt] w fun e w' => e = .returned (.int .i64 x.toInt) ∧ w.setCell ⟨b, j, none⟩ (.int .i64 (x &&& y).toInt) = w' := by
  have hst := run_call_bits (P := Try.prog) Try.func51 (by kernel_rfl) (by kernel_rfl) (by kernel_rfl) .i64 .and (by kernel_rfl) hc hz (run_and_i64 x y w)
  generalize x &&& y = z at *
  go_enter Try.func37, Try.ntmps37
  go_wp2
  go_ret
  exact ⟨rfl, rfl⟩

theorem and_ownS {w : World} {B E b n c j : Nat} {p q : List Row} {st : List (BitVec 64)} (h : Owns w B (p ++ ⟨E, some ⟨b, 0, none⟩, n, c, I64 st⟩ :: q)) (hj : j < st.length) (y o z : BitVec 64) (ho : st.getD j 0 = o) (hz : o &&& y = z) :
    Calls Try.prog 37 #[.pointer (some ⟨b, j, none⟩), .int .i64 y.toInt] w (WroteS w B E b n c p q (st.set j z) (.int .i64 o.toInt)) := by
  subst ho hz
  exact (and_anyS b j w _ y (words_cellS h hj).1 (words_cellS h hj).2).mono fun _ _ ⟨he, hw⟩ => wrote_ofS h hj _ _ he hw

theorem rel_stepS {w : World} {B E n a c k cl : Nat} {x y : Option Addr} {st S A : List (BitVec 64)} {sc : List (Call 64)} {κ : BitVec 8} {u v : BitVec 64} (h : k < sc.length) (hS : (runL st (sc.take k)).2 = S) (hA : (runL st (sc.take k)).1 = A)
    (hc : sc[k] = ⟨κ, cl, u, v⟩) {o ans new : BitVec 64} (hO : S.getD cl 0 = o) (hs : (⟨κ, cl, u, v⟩ : Call 64).step o = (ans, new))
    (ho : Owns w B [⟨E, x, n, a, I64 (S.set cl new)⟩, ⟨2, y, k + 1, c, I64 A ++ [.int .i64 ans.toInt]⟩]) :
    Owns w B [⟨E, x, n, a, I64 (runL st (sc.take (k + 1))).2⟩, ⟨2, y, k + 1, c, I64 (runL st (sc.take (k + 1))).1⟩] := by
  rw [runL_take_succ h, hc, hS, hA, hO, hs]
  simpa [I64_snoc] using ho

set_option maxHeartbeats 1600000 in
set_option maxRecDepth 100000 in
theorem runS_any (w : World) (a0 a1 a2 a3 a4 : Option Addr) (c0 c1 c2 c3 c4 n m : Nat) (st : List (BitVec 64)) (sc : List (Call 64)) (hst : st.length = n) (hsc : sc.length = m)
    (r0 : Rd w a0 (I64 st)) (r1 : Rd w a1 (U8 (kindsOf sc))) (r2 : Rd w a2 (NI (cellsOf sc))) (r3 : Rd w a3 (I64 (asOf sc))) (r4 : Rd w a4 (I64 (bsOf sc)))
    (bn : n ≤ 17592186043904) (bm : m ≤ 17592186043904) (hcell : ∀ c ∈ sc, c.cell < n) :
    Calls Try.prog 17 #[.slice a0 n c0, .slice a1 m c1, .slice a2 m c2, .slice a3 m c3, .slice a4 m c4] w (Two w 2 2 m n (I64 (runL st sc).1) (I64 (runL st sc).2)) := by
  obtain ⟨i0, hi, hz0, hz1, hz2⟩ := info_parts infoI
  obtain ⟨j0, hj, hy0, hy1, hy2⟩ := info_parts infoAI
  have Hst := Lib.hid hst; have Hsc := Lib.hid hsc; have HC := Lib.hid hcell
  have H0 := Lib.hid r0; have H1 := Lib.hid r1; have H2 := Lib.hid r2; have H3 := Lib.hid r3; have H4 := Lib.hid r4
  clear hst hsc hcell r0 r1 r2 r3 r4
  go_enter Try.func17, Try.ntmps17
  go_wp2_with (at_make; refine wpList_make_full _ rfl _ _ 65 rfl w.heap.size 67 j0 (.agg #[.int .i64 0]) 1 Try.underlying65 hj hy0 hy1 .i64 .i64 _ _ n rfl rfl rfl rfl (by rw [hy2]; omega) (by simp only [maxLen]; omega) (Nat.le_refl _) ?_)
  intro w1 ho hg
  rw [made_i64] at ho
  have hb := (Below.refl w.heap.size w).grown hg (Nat.le_refl _) (by simp)
  have ho1 : Owns w1 w.heap.size [⟨67, some ⟨w.heap.size, 0, none⟩, n, n, I64 (List.replicate n 0)⟩] := ⟨by simpa [Row.val] using ho, by simp⟩
  clear ho hg
  go_wp2
  go_loopw [26] (fun i wr => ∃ k : Nat, k ≤ n ∧ i = .int .i64 k ∧ Owns wr w.heap.size [⟨67, some ⟨w.heap.size, 0, none⟩, n, n, I64 (st.take k ++ List.replicate (n - k) 0)⟩] ∧ Below w.heap.size w wr) (fun i _ => n - (intOf i).toNat)
  case atStart => exact ⟨0, Nat.zero_le _, rfl, by simpa using ho1, hb⟩
  case round =>
    clear ho1 hb
    obtain ⟨k, hk, rfl, ho, hb⟩ := hrel
    by_cases hlt : k < n
    · have lx : k < st.length := by rw [Hst.out]; exact hlt
      obtain ⟨b0, o0, rfl, hc0⟩ := at_i64 H0.out hb (Nat.le_refl _) lx
      have hj : k < (st.take k ++ List.replicate (n - k) 0).length := by simp; omega
      have hsz := hb.size
      go_wp2_with (go_at_call 32; refine (store_ownS (p := []) (q := []) ho hj st[k]).mono ?_; rintro e w2 ⟨rfl, ho2, hb2⟩)
      rw [fill_step Hst.out lx] at ho2
      go_wp2
      go_roundw
      case rel => exact ⟨k + 1, by omega, by go_num, ho2, hb.trans hb2⟩
      case measure => simp [intOf]; omega
    · rw [fill_end Hst.out hlt] at ho
      have hB := hb.size
      have hp := Lib.hid (Owns.made ho hB 2 #[] (by simp))
      have hbp := Lib.hid (hb.alloc hB (.cells #[] 2))
      clear ho
      obtain ⟨wo, rfl⟩ : ∃ wo : World, wo = wr := ⟨_, rfl⟩
      clear hb hB
      go_wp2
      go_loopw [40, 15] (fun i v wr => ∃ (k : Nat) (a : Option Addr) (c : Nat), k ≤ m ∧ i = .int .i64 k ∧ v = .slice a k c ∧ Owns wr w.heap.size [⟨67, some ⟨w.heap.size, 0, none⟩, n, n, I64 (runL st (sc.take k)).2⟩, ⟨2, a, k, c, I64 (runL st (sc.take k)).1⟩] ∧ Below w.heap.size w wr) (fun i _ _ => m - (intOf i).toNat)
      case atStart => exact ⟨0, _, _, Nat.zero_le _, rfl, rfl, by simpa [runL] using hp.out, hbp.out⟩
      case round =>
        obtain ⟨k, a, c, hk, rfl, rfl, ho, hb⟩ := hrel
        have hsz := hb.size
        by_cases hlt : k < m
        · have lx : k < sc.length := by rw [Hsc.out]; exact hlt
          obtain ⟨κ, cl, x, y, hcall⟩ : ∃ κ cl x y, sc[k] = ⟨κ, cl, x, y⟩ := ⟨_, _, _, _, rfl⟩
          have hcn : cl < n := by have := HC.out _ (List.getElem_mem lx); rw [hcall] at this; exact this
          obtain ⟨b1, o1, rfl, c1⟩ := at_u8 H1.out hb (Nat.le_refl _) (k := k) (by simpa [kindsOf] using lx)
          obtain ⟨b2, o2, rfl, c2⟩ := at_int H2.out hb (Nat.le_refl _) (k := k) (by simpa [cellsOf] using lx)
          obtain ⟨b3, o3, rfl, c3⟩ := at_i64 H3.out hb (Nat.le_refl _) (k := k) (by simpa [asOf] using lx)
          obtain ⟨b4, o4, rfl, c4⟩ := at_i64 H4.out hb (Nat.le_refl _) (k := k) (by simpa [bsOf] using lx)
          simp only [kindsOf, cellsOf, asOf, bsOf, List.getElem_map, hcall] at c1 c2 c3 c4
          generalize hS : (runL st (sc.take k)).2 = S at *
          generalize hA : (runL st (sc.take k)).1 = A at *
          have hcl : cl < S.length := by rw [← hS, runL_snd_length, Hst.out]; exact hcn
          have HK := Lib.hid hcall; have HS := Lib.hid hS; have HA := Lib.hid hA
          obtain ⟨o, hO⟩ : ∃ o, S.getD cl 0 = o := ⟨_, rfl⟩
          have HO := Lib.hid hO
          clear hcall hS hA hO
          by_cases h1 : κ = 1#8
          · subst h1
            replace c1 : wr.cell? ⟨b1, o1 + k, none⟩ = some (.int .u8 1) := by simpa using c1
            go_wp2_with (first | (go_at_call 32; refine (store_ownS (p := []) (q := [_]) ho hcl x).mono ?_; rintro e w2 ⟨rfl, ho2, hb2⟩; have hsz2 := hb2.size) | (at_builtin; refine wpList_append_at _ rfl _ _ 46 rfl 2 i0 (.int .i64 0) 8 Try.underlying46 hi hz0 hz1 hz2 rfl (by decide) w.heap.size [_] [] ⟨2, a, k, c, _⟩ rfl rfl (Owns.alloc ho2 _) _ 1 1 [_] rfl rfl (by simp) (Rd.one _ _ _) (by simp [Value.oneCell']) (by simp; omega) (by simp; omega) ?_))
            intro a' c' w3 ho3 hb3
            have hT := (hb.trans hb2).trans (((Below.refl w.heap.size w2).alloc (by omega) _).trans hb3)
            have hR := rel_stepS lx HS.out HA.out HK.out HO.out (by rw [Call.step1 _ _ rfl]) (by simpa using ho3)
            clear ho3 hb3 ho
            go_wp2
            go_roundw
            case rel => exact ⟨k + 1, a', c', by omega, by go_num, rfl, hR, hT⟩
            case measure => simp [intOf]; omega
          by_cases h2 : κ = 2#8
          · subst h2
            replace c1 : wr.cell? ⟨b1, o1 + k, none⟩ = some (.int .u8 2) := by simpa using c1
            obtain ⟨z, hz⟩ : ∃ z, o + x = z := ⟨_, rfl⟩
            have HZ := Lib.hid hz
            clear hz
            go_wp2_with (first | (go_at_call 34; refine (add_ownS (p := []) (q := [_]) ho hcl x o z HO.out HZ.out).mono ?_; rintro e w2 ⟨rfl, ho2, hb2⟩; have hsz2 := hb2.size) | (at_builtin; refine wpList_append_at _ rfl _ _ 46 rfl 2 i0 (.int .i64 0) 8 Try.underlying46 hi hz0 hz1 hz2 rfl (by decide) w.heap.size [_] [] ⟨2, a, k, c, _⟩ rfl rfl (Owns.alloc ho2 _) _ 1 1 [_] rfl rfl (by simp) (Rd.one _ _ _) (by simp [Value.oneCell']) (by simp; omega) (by simp; omega) ?_))
            intro a' c' w3 ho3 hb3
            have hT := (hb.trans hb2).trans (((Below.refl w.heap.size w2).alloc (by omega) _).trans hb3)
            have hR := rel_stepS lx HS.out HA.out HK.out HO.out (by rw [Call.step2 _ _ rfl, HZ.out]) (by simpa using ho3)
            clear ho3 hb3 ho
            go_wp2
            go_roundw
            case rel => exact ⟨k + 1, a', c', by omega, by go_num, rfl, hR, hT⟩
            case measure => simp [intOf]; omega
          by_cases h3 : κ = 3#8
          · subst h3
            replace c1 : wr.cell? ⟨b1, o1 + k, none⟩ = some (.int .u8 3) := by simpa using c1
            go_wp2_with (first | (go_at_call 35; refine (swap_ownS (p := []) (q := [_]) ho hcl x o HO.out).mono ?_; rintro e w2 ⟨rfl, ho2, hb2⟩; have hsz2 := hb2.size) | (at_builtin; refine wpList_append_at _ rfl _ _ 46 rfl 2 i0 (.int .i64 0) 8 Try.underlying46 hi hz0 hz1 hz2 rfl (by decide) w.heap.size [_] [] ⟨2, a, k, c, _⟩ rfl rfl (Owns.alloc ho2 _) _ 1 1 [_] rfl rfl (by simp) (Rd.one _ _ _) (by simp [Value.oneCell']) (by simp; omega) (by simp; omega) ?_))
            intro a' c' w3 ho3 hb3
            have hT := (hb.trans hb2).trans (((Below.refl w.heap.size w2).alloc (by omega) _).trans hb3)
            have hR := rel_stepS lx HS.out HA.out HK.out HO.out (by rw [Call.step3 _ _ rfl]) (by simpa using ho3)
            clear ho3 hb3 ho
            go_wp2
            go_roundw
            case rel => exact ⟨k + 1, a', c', by omega, by go_num, rfl, hR, hT⟩
            case measure => simp [intOf]; omega
          by_cases h5 : κ = 5#8
          · subst h5
            replace c1 : wr.cell? ⟨b1, o1 + k, none⟩ = some (.int .u8 5) := by simpa using c1
            obtain ⟨z, hz⟩ : ∃ z, o &&& x = z := ⟨_, rfl⟩
            have HZ := Lib.hid hz
            clear hz
            go_wp2_with (first | (go_at_call 37; refine (and_ownS (p := []) (q := [_]) ho hcl x o z HO.out HZ.out).mono ?_; rintro e w2 ⟨rfl, ho2, hb2⟩; have hsz2 := hb2.size) | (at_builtin; refine wpList_append_at _ rfl _ _ 46 rfl 2 i0 (.int .i64 0) 8 Try.underlying46 hi hz0 hz1 hz2 rfl (by decide) w.heap.size [_] [] ⟨2, a, k, c, _⟩ rfl rfl (Owns.alloc ho2 _) _ 1 1 [_] rfl rfl (by simp) (Rd.one _ _ _) (by simp [Value.oneCell']) (by simp; omega) (by simp; omega) ?_))
            intro a' c' w3 ho3 hb3
            have hT := (hb.trans hb2).trans (((Below.refl w.heap.size w2).alloc (by omega) _).trans hb3)
            have hR := rel_stepS lx HS.out HA.out HK.out HO.out (by rw [Call.step5 _ _ rfl, HZ.out]) (by simpa using ho3)
            clear ho3 hb3 ho
            go_wp2
            go_roundw
            case rel => exact ⟨k + 1, a', c', by omega, by go_num, rfl, hR, hT⟩
            case measure => simp [intOf]; omega
          by_cases h6 : κ = 6#8
          · subst h6
            replace c1 : wr.cell? ⟨b1, o1 + k, none⟩ = some (.int .u8 6) := by simpa using c1
            obtain ⟨z, hz⟩ : ∃ z, o ||| x = z := ⟨_, rfl⟩
            have HZ := Lib.hid hz
            clear hz
            go_wp2_with (first | (go_at_call 38; refine (or_ownS (p := []) (q := [_]) ho hcl x o z HO.out HZ.out).mono ?_; rintro e w2 ⟨rfl, ho2, hb2⟩; have hsz2 := hb2.size) | (at_builtin; refine wpList_append_at _ rfl _ _ 46 rfl 2 i0 (.int .i64 0) 8 Try.underlying46 hi hz0 hz1 hz2 rfl (by decide) w.heap.size [_] [] ⟨2, a, k, c, _⟩ rfl rfl (Owns.alloc ho2 _) _ 1 1 [_] rfl rfl (by simp) (Rd.one _ _ _) (by simp [Value.oneCell']) (by simp; omega) (by simp; omega) ?_))
            intro a' c' w3 ho3 hb3
            have hT := (hb.trans hb2).trans (((Below.refl w.heap.size w2).alloc (by omega) _).trans hb3)
            have hR := rel_stepS lx HS.out HA.out HK.out HO.out (by rw [Call.step6 _ _ rfl, HZ.out]) (by simpa using ho3)
            clear ho3 hb3 ho
            go_wp2
            go_roundw
            case rel => exact ⟨k + 1, a', c', by omega, by go_num, rfl, hR, hT⟩
            case measure => simp [intOf]; omega
          by_cases h0 : κ = 0#8
          · subst h0
            replace c1 : wr.cell? ⟨b1, o1 + k, none⟩ = some (.int .u8 0) := by simpa using c1
            go_wp2_with (first | (go_at_call 33; refine (load_ownS (p := []) (q := [_]) ho hcl o HO.out).mono ?_; rintro e w2 ⟨rfl, rfl⟩) | (at_builtin; refine wpList_append_at _ rfl _ _ 46 rfl 2 i0 (.int .i64 0) 8 Try.underlying46 hi hz0 hz1 hz2 rfl (by decide) w.heap.size [_] [] ⟨2, a, k, c, _⟩ rfl rfl (Owns.alloc ho _) _ 1 1 [_] rfl rfl (by simp) (Rd.one _ _ _) (by simp [Value.oneCell']) (by simp; omega) (by simp; omega) ?_))
            intro a' c' w3 ho3 hb3
            have hT := hb.trans (((Below.refl w.heap.size wr).alloc hsz _).trans hb3)
            have hss := set_same (st := S) (j := cl)
            rw [HO.out] at hss
            rw [← hss] at ho3
            have hR := rel_stepS lx HS.out HA.out HK.out HO.out (Call.step0 _ _ rfl) (by simpa using ho3)
            clear ho3 hb3 ho
            go_wp2
            go_roundw
            case rel => exact ⟨k + 1, a', c', by omega, by go_num, rfl, hR, hT⟩
            case measure => simp [intOf]; omega
          by_cases h4 : κ = 4#8
          · subst h4
            replace c1 : wr.cell? ⟨b1, o1 + k, none⟩ = some (.int .u8 4) := by simpa using c1
            by_cases hq : o = x
            · obtain rfl := hq
              go_wp2
              go_still_tail 9, (by kernel_rfl)
              go_wp2_with (first | (go_at_call 36; refine (hit_ownS (p := []) (q := [_]) ho.drew hcl y o HO.out).mono ?_; rintro e w2 ⟨rfl, ho2, hb2⟩; have hsz2 : wr.heap.size ≤ w2.heap.size := hb2.size) | (at_builtin; refine wpList_append_at _ rfl _ _ 46 rfl 2 i0 (.int .i64 0) 8 Try.underlying46 hi hz0 hz1 hz2 rfl (by decide) w.heap.size [_] [] ⟨2, a, k, c, _⟩ rfl rfl (Owns.alloc ho2 _) _ 1 1 [_] rfl rfl (by simp) (Rd.one _ _ _) (by simp [Value.oneCell']) (by simp; omega) (by simp; omega) ?_))
              intro a' c' w3 ho3 hb3
              have hT := (hb.drew.trans hb2).trans (((Below.refl w.heap.size w2).alloc (by omega) _).trans hb3)
              have hR := rel_stepS lx HS.out HA.out HK.out HO.out (by rw [Call.step4 _ _ rfl, if_pos rfl]) (by simpa using ho3)
              clear ho3 hb3 ho
              go_wp2
              go_roundw
              case rel => exact ⟨k + 1, a', c', by omega, by go_num, rfl, hR, hT⟩
              case measure => simp [intOf]; omega
            · have HQ := Lib.hid hq
              clear hq
              go_wp2
              go_still_tail 9, (by kernel_rfl)
              go_wp2_with (first | (go_at_call 36; refine (miss_ownS (p := []) (q := [_]) ho.drew hcl y o x HO.out HQ.out).mono ?_; rintro e w2 ⟨rfl, rfl⟩) | (at_builtin; refine wpList_append_at _ rfl _ _ 46 rfl 2 i0 (.int .i64 0) 8 Try.underlying46 hi hz0 hz1 hz2 rfl (by decide) w.heap.size [_] [] ⟨2, a, k, c, _⟩ rfl rfl (Owns.alloc ho.drew _) _ 1 1 [_] rfl rfl (by simp) (Rd.one _ _ _) (by simp [Value.oneCell']) (by simp; omega) (by simp; omega) ?_))
              intro a' c' w3 ho3 hb3
              have hT := hb.trans (((Below.refl w.heap.size wr).drew.alloc hsz _).trans hb3)
              have hss := set_same (st := S) (j := cl)
              rw [HO.out] at hss
              rw [← hss] at ho3
              have hR := rel_stepS lx HS.out HA.out HK.out HO.out (by rw [Call.step4 _ _ rfl, if_neg HQ.out]) (by simpa using ho3)
              clear ho3 hb3 ho
              go_wp2
              go_roundw
              case rel => exact ⟨k + 1, a', c', by omega, by go_num, rfl, hR, hT⟩
              case measure => simp [intOf]; omega
          have t0 : ((κ.toNat : Int) == 0) = false := by rw [beq_eq_false_iff_ne]; intro h; exact h0 (BitVec.eq_of_toNat_eq (by simp; omega))
          have t1 : ((κ.toNat : Int) == 1) = false := by rw [beq_eq_false_iff_ne]; intro h; exact h1 (BitVec.eq_of_toNat_eq (by simp; omega))
          have t2 : ((κ.toNat : Int) == 2) = false := by rw [beq_eq_false_iff_ne]; intro h; exact h2 (BitVec.eq_of_toNat_eq (by simp; omega))
          have t3 : ((κ.toNat : Int) == 3) = false := by rw [beq_eq_false_iff_ne]; intro h; exact h3 (BitVec.eq_of_toNat_eq (by simp; omega))
          have t4 : ((κ.toNat : Int) == 4) = false := by rw [beq_eq_false_iff_ne]; intro h; exact h4 (BitVec.eq_of_toNat_eq (by simp; omega))
          have t5 : ((κ.toNat : Int) == 5) = false := by rw [beq_eq_false_iff_ne]; intro h; exact h5 (BitVec.eq_of_toNat_eq (by simp; omega))
          have t6 : ((κ.toNat : Int) == 6) = false := by rw [beq_eq_false_iff_ne]; intro h; exact h6 (BitVec.eq_of_toNat_eq (by simp; omega))
          have HD := Lib.hid (And.intro h0 (And.intro h1 (And.intro h2 (And.intro h3 (And.intro h4 (And.intro h5 h6))))))
          clear h0 h1 h2 h3 h4 h5 h6
          go_wp2_with ((at_builtin; refine wpList_append_at _ rfl _ _ 46 rfl 2 i0 (.int .i64 0) 8 Try.underlying46 hi hz0 hz1 hz2 rfl (by decide) w.heap.size [_] [] ⟨2, a, k, c, _⟩ rfl rfl (Owns.alloc ho _) _ 1 1 [_] rfl rfl (by simp) (Rd.one _ _ _) (by simp [Value.oneCell']) (by simp; omega) (by simp; omega) ?_))
          intro a' c' w3 ho3 hb3
          have hT := hb.trans (((Below.refl w.heap.size wr).alloc hsz _).trans hb3)
          have hss := set_same (st := S) (j := cl)
          rw [HO.out] at hss
          rw [← hss] at ho3
          have hR := rel_stepS lx HS.out HA.out HK.out HO.out (Call.step7 _ _ HD.out.1 HD.out.2.1 HD.out.2.2.1 HD.out.2.2.2.1 HD.out.2.2.2.2.1 HD.out.2.2.2.2.2.1 HD.out.2.2.2.2.2.2) (by simpa using ho3)
          clear ho3 hb3 ho
          go_wp2
          go_roundw
          case rel => exact ⟨k + 1, a', c', by omega, by go_num, rfl, hR, hT⟩
          case measure => simp [intOf]; omega
        · rw [List.take_of_length_le (by rw [Hsc.out]; omega)] at ho
          obtain rfl : k = m := by omega
          generalize hS : (runL st sc).2 = S at *
          generalize hA : (runL st sc).1 = A at *
          have HS : Hid (S.length = n) := by show _ = _; rw [← hS, runL_snd_length, Hst.out]
          clear hS hA
          have hp := Lib.hid (Owns.made ho hsz 2 #[] (by simp))
          have hbp := Lib.hid (hb.alloc hsz (.cells #[] 2))
          obtain ⟨wx, rfl⟩ : ∃ wx : World, wx = wr := ⟨_, rfl⟩
          clear ho hb hsz
          go_wp2
          go_loopw [139, 19] (fun i v wr => ∃ (j : Nat) (a' : Option Addr) (c' : Nat), j ≤ n ∧ i = .int .i64 j ∧ v = .slice a' j c' ∧ Owns wr w.heap.size [⟨67, some ⟨w.heap.size, 0, none⟩, n, n, I64 S⟩, ⟨2, a, k, c, I64 A⟩, ⟨2, a', j, c', I64 (S.take j)⟩] ∧ Below w.heap.size w wr) (fun i _ _ => n - (intOf i).toNat)
          case atStart => exact ⟨0, _, _, Nat.zero_le _, rfl, rfl, by simpa using hp.out, hbp.out⟩
          case round =>
            clear hp hbp
            obtain ⟨j, a', c', hj', rfl, rfl, ho, hb⟩ := hrel
            have hsz := hb.size
            by_cases hlt : j < n
            · have lx : j < S.length := by rw [HS.out]; exact hlt
              obtain ⟨o, hO⟩ : ∃ o, S.getD j 0 = o := ⟨_, rfl⟩
              have HO := Lib.hid hO
              clear hO
              go_wp2_with (first | (go_at_call 33; refine (load_ownS (p := []) (q := [_, _]) ho lx o HO.out).mono ?_; rintro e w2 ⟨rfl, rfl⟩) | (at_builtin; refine wpList_append_at _ rfl _ _ 46 rfl 2 i0 (.int .i64 0) 8 Try.underlying46 hi hz0 hz1 hz2 rfl (by decide) w.heap.size [_, _] [] ⟨2, a', j, c', _⟩ rfl rfl (Owns.alloc ho _) _ 1 1 [_] rfl rfl (by simp) (Rd.one _ _ _) (by simp [Value.oneCell']) (by simp; omega) (by simp; omega) ?_))
              intro a2 c2 w3 ho3 hb3
              have hT := hb.trans (((Below.refl w.heap.size wr).alloc hsz _).trans hb3)
              have hR : Owns w3 w.heap.size [⟨67, some ⟨w.heap.size, 0, none⟩, n, n, I64 S⟩, ⟨2, a, k, c, I64 A⟩, ⟨2, a2, j + 1, c2, I64 (S.take (j + 1))⟩] := by
                rw [List.take_succ_eq_append_getElem lx, I64_snoc, show S[j] = o by rw [← HO.out]; simp [lx]]
                simpa using ho3
              clear ho3 hb3 ho
              go_wp2
              go_roundw
              case rel => exact ⟨j + 1, a2, c2, by omega, by go_num, rfl, hR, hT⟩
              case measure => simp [intOf]; omega
            · rw [List.take_of_length_le (by rw [HS.out]; omega)] at ho
              obtain rfl : j = n := by omega
              have HR := Lib.hid (ho.drop (L' := [⟨2, a, k, c, I64 A⟩, ⟨2, a', j, c', I64 S⟩]) (by simp))
              have HB := Lib.hid hb
              clear ho hb
              go_wp2
              go_ret2
              exact ⟨a, c, a', c', rfl, HR.out, HB.out⟩

end Go.Proofs.Ytjjmjjbeecmmlac
