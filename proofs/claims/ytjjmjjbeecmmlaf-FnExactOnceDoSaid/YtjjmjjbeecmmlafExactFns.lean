/-
  The contracts of the exact law's helpers (written by gen_exact.py).
-/
import Derived.Test.YtjjmjjbeecmmlafAlive
namespace Go.Proofs.Ytjjmjjbeecmmlaf
set_option linter.unusedVariables false
set_option linter.unusedSimpArgs false
open Go.RowKit

theorem made_rep (v : Value) (n : Nat) : (madeCells #[v] n).toList = List.replicate n v := by
  simp only [madeCells]
  apply List.ext_getElem
  · simp
  · intro i h1 h2
    simp [Nat.mod_one]
theorem infoX8 : (Try.prog.info? 37).map (fun i => (i.zero, i.size, i.bytes)) = some (some (.int .i8 0), 1, 1) := by kernel_rfl
theorem mid_get {p q : List Row} {r : Row} : (p ++ r :: q)[p.length]? = some r := by simp
def marks (K : IntKind) (k n : Nat) : List Value := (List.range n).map fun j => .int K ((k + j : Nat) : Int)
@[simp] theorem marks_length {K : IntKind} {k n : Nat} : (marks K k n).length = n := by simp [marks]
theorem marks_get {K : IntKind} {k n j : Nat} (h : j < n) : (marks K k n)[j]? = some (.int K ((k + j : Nat) : Int)) := by simp [marks, h]
def over (M V : List Value) (j : Nat) : List Value := M.take j ++ V.drop j
theorem over_length {M V : List Value} {j : Nat} (h : M.length = V.length) (hj : j ≤ M.length) : (over M V j).length = M.length := by simp [over]; omega
theorem over_zero {M V : List Value} : over M V 0 = V := by simp [over]
theorem over_end {M V : List Value} {n : Nat} (h : M.length = n) (h' : V.length = n) : over M V n = M := by
  unfold over
  rw [List.take_of_length_le (by omega), List.drop_of_length_le (by omega), List.append_nil]
theorem over_step {M V : List Value} {j : Nat} {v : Value} (hl : M.length = V.length) (h : j < M.length) (hv : M[j]? = some v) : over M V (j + 1) = (over M V j).set j v := by
  apply List.ext_getElem?
  intro i
  unfold over
  by_cases e : i = j
  · subst e
    rw [List.getElem?_set_self (by simp; omega), List.getElem?_append_left (by simp; omega), List.getElem?_take, if_pos (by omega), hv]
  · rw [List.getElem?_set_ne (by omega)]
    by_cases hi : i < j
    · rw [List.getElem?_append_left (by simp; omega), List.getElem?_append_left (by simp; omega), List.getElem?_take, List.getElem?_take, if_pos (by omega), if_pos hi]
    · rw [List.getElem?_append_right (by simp; omega), List.getElem?_append_right (by simp; omega), List.getElem?_drop, List.getElem?_drop]
      simp only [List.length_take]
      congr 1
      omega

set_option maxHeartbeats 800000 in
theorem toInt8S_any (w : World) (a : Option Addr) (n c : Nat) (xs : List (BitVec 8)) (hx : Rd w a (I8 xs)) (hn : xs.length = n) (bn : n ≤ 1048576) :
    Calls Try.prog 9 #[.slice a n c] w (One w 37 n (I8 xs)) := by
  obtain ⟨i0, hi, hzz0, hzz1, hzz2⟩ := info_parts infoX8
  have hll : (I8 xs).length = n := by simpa [I8] using hn
  obtain ⟨D, hD⟩ : ∃ D, over (I8 xs) (List.replicate n (.int .i8 0)) = D := ⟨_, rfl⟩
  have HD0 : Hid (D 0 = List.replicate n (.int .i8 0)) := by show _ = _; rw [← hD]; exact over_zero
  have HDN : Hid (D n = I8 xs) := by show _ = _; rw [← hD]; exact over_end hll (by simp)
  have HDL : Hid (∀ k, k ≤ n → (D k).length = n) := by refine Lib.hid fun k hk => ?_; rw [← hD, over_length (by rw [hll]; simp) (by omega), hll]
  have HDS : Hid (∀ k (h : k < xs.length), D (k + 1) = (D k).set k (.int .i8 xs[k].toInt)) := by
    refine Lib.hid fun k h => ?_
    rw [← hD]
    exact over_step (by rw [hll]; simp) (by omega) (by simp [I8, h])
  have HX := Lib.hid hx; have HN := Lib.hid hn
  clear hD hll hx hn
  go_enter Try.func9, Try.ntmps9
  go_wp2_with (at_make; refine wpList_make_full _ rfl _ _ 22 rfl w.heap.size 37 i0 (.int .i8 0) 1 Try.underlying22 hi hzz0 hzz1 .i64 .i64 _ _ n rfl rfl rfl rfl (by rw [hzz2]; omega) (by simp only [maxLen]; omega) (Nat.le_refl _) ?_)
  intro w4 ho4 hg4
  rw [made_rep] at ho4
  obtain ⟨hoA, hbA⟩ := (Owns.nil w w.heap.size).makes (b := w.heap.size) (Nat.le_refl _) rfl ho4 hg4
  have O1 : Hid (Owns w4 w.heap.size [⟨37, some ⟨w.heap.size, 0, none⟩, n, n, List.replicate n (.int .i8 0)⟩]) := Lib.hid hoA
  have B1 := Lib.hid hbA
  clear ho4 hg4 hoA hbA hi hzz0 hzz1 hzz2
  go_wp2
  go_loopw [4] (fun i wr => ∃ k : Nat, k ≤ n ∧ i = .int .i64 k ∧ Owns wr w.heap.size [⟨37, some ⟨w.heap.size, 0, none⟩, n, n, D k⟩] ∧ Below w.heap.size w wr) (fun i _ => n - (intOf i).toNat)
  case atStart => exact ⟨0, Nat.zero_le _, rfl, by rw [HD0.out]; exact O1.out, B1.out⟩
  case round =>
    clear O1 B1
    obtain ⟨k, hk, rfl, ho, hb⟩ := hrel
    by_cases hlt : k < n
    · have lx : k < xs.length := by rw [HN.out]; exact hlt
      obtain ⟨b1, o1, rfl, c1⟩ := at_i8 HX.out hb (Nat.le_refl _) lx
      have HS := Lib.hid (HDS.out k lx)
      obtain ⟨z, hz⟩ : ∃ z, xs[k].toInt = z := ⟨_, rfl⟩
      rw [hz] at c1 HS
      have f := ho.free 0 rfl k
      obtain ⟨u, q1⟩ := ho.has 0 rfl (k := k) (by rw [HDL.out k (by omega)]; exact hlt)
      obtain ⟨ho2, hb2⟩ := Owns.stored (p := []) ho rfl k (.int .i8 z)
      have HO : Hid (Owns (wr.setCell ⟨w.heap.size, k, none⟩ (.int .i8 z)) w.heap.size [⟨37, some ⟨w.heap.size, 0, none⟩, n, n, D (k + 1)⟩]) := by
        refine Lib.hid ?_
        rw [HS.out]
        exact ho2
      have HB := Lib.hid (hb.trans hb2)
      clear ho hb ho2 hb2 hz
      go_wp2
      go_roundw
      case rel => exact ⟨k + 1, by omega, by go_num, HO.out, HB.out⟩
      case measure => simp [intOf] <;> omega
    · have hkn : n = k := by omega
      subst hkn
      rw [HDN.out] at ho
      have HO := Lib.hid ho; have HB := Lib.hid hb
      clear ho hb
      go_wp2
      go_ret
      exact ⟨_, _, rfl, HO.out, HB.out⟩

set_option maxHeartbeats 800000 in
theorem toUint64S_any (w : World) (a : Option Addr) (n c : Nat) (xs : List (BitVec 64)) (hx : Rd w a (U xs)) (hn : xs.length = n) (bn : n ≤ 1048576) :
    Calls Try.prog 10 #[.slice a n c] w (One w 36 n (U xs)) := by
  obtain ⟨i0, hi, hzz0, hzz1, hzz2⟩ := info_parts info30
  have hll : (U xs).length = n := by simpa [U] using hn
  obtain ⟨D, hD⟩ : ∃ D, over (U xs) (List.replicate n (.int .u64 0)) = D := ⟨_, rfl⟩
  have HD0 : Hid (D 0 = List.replicate n (.int .u64 0)) := by show _ = _; rw [← hD]; exact over_zero
  have HDN : Hid (D n = U xs) := by show _ = _; rw [← hD]; exact over_end hll (by simp)
  have HDL : Hid (∀ k, k ≤ n → (D k).length = n) := by refine Lib.hid fun k hk => ?_; rw [← hD, over_length (by rw [hll]; simp) (by omega), hll]
  have HDS : Hid (∀ k (h : k < xs.length), D (k + 1) = (D k).set k (.int .u64 (xs[k].toNat : Int))) := by
    refine Lib.hid fun k h => ?_
    rw [← hD]
    exact over_step (by rw [hll]; simp) (by omega) (by simp [U, h])
  have HX := Lib.hid hx; have HN := Lib.hid hn
  clear hD hll hx hn
  go_enter Try.func10, Try.ntmps10
  go_wp2_with (at_make; refine wpList_make_full _ rfl _ _ 23 rfl w.heap.size 36 i0 (.int .u64 0) 1 Try.underlying23 hi hzz0 hzz1 .i64 .i64 _ _ n rfl rfl rfl rfl (by rw [hzz2]; omega) (by simp only [maxLen]; omega) (Nat.le_refl _) ?_)
  intro w4 ho4 hg4
  rw [made_rep] at ho4
  obtain ⟨hoA, hbA⟩ := (Owns.nil w w.heap.size).makes (b := w.heap.size) (Nat.le_refl _) rfl ho4 hg4
  have O1 : Hid (Owns w4 w.heap.size [⟨36, some ⟨w.heap.size, 0, none⟩, n, n, List.replicate n (.int .u64 0)⟩]) := Lib.hid hoA
  have B1 := Lib.hid hbA
  clear ho4 hg4 hoA hbA hi hzz0 hzz1 hzz2
  go_wp2
  go_loopw [4] (fun i wr => ∃ k : Nat, k ≤ n ∧ i = .int .i64 k ∧ Owns wr w.heap.size [⟨36, some ⟨w.heap.size, 0, none⟩, n, n, D k⟩] ∧ Below w.heap.size w wr) (fun i _ => n - (intOf i).toNat)
  case atStart => exact ⟨0, Nat.zero_le _, rfl, by rw [HD0.out]; exact O1.out, B1.out⟩
  case round =>
    clear O1 B1
    obtain ⟨k, hk, rfl, ho, hb⟩ := hrel
    by_cases hlt : k < n
    · have lx : k < xs.length := by rw [HN.out]; exact hlt
      obtain ⟨b1, o1, rfl, c1⟩ := at_u64 HX.out hb (Nat.le_refl _) lx
      have HS := Lib.hid (HDS.out k lx)
      obtain ⟨z, hz⟩ : ∃ z, (xs[k].toNat : Int) = z := ⟨_, rfl⟩
      rw [hz] at c1 HS
      have f := ho.free 0 rfl k
      obtain ⟨u, q1⟩ := ho.has 0 rfl (k := k) (by rw [HDL.out k (by omega)]; exact hlt)
      obtain ⟨ho2, hb2⟩ := Owns.stored (p := []) ho rfl k (.int .u64 z)
      have HO : Hid (Owns (wr.setCell ⟨w.heap.size, k, none⟩ (.int .u64 z)) w.heap.size [⟨36, some ⟨w.heap.size, 0, none⟩, n, n, D (k + 1)⟩]) := by
        refine Lib.hid ?_
        rw [HS.out]
        exact ho2
      have HB := Lib.hid (hb.trans hb2)
      clear ho hb ho2 hb2 hz
      go_wp2
      go_roundw
      case rel => exact ⟨k + 1, by omega, by go_num, HO.out, HB.out⟩
      case measure => simp [intOf] <;> omega
    · have hkn : n = k := by omega
      subst hkn
      rw [HDN.out] at ho
      have HO := Lib.hid ho; have HB := Lib.hid hb
      clear ho hb
      go_wp2
      go_ret
      exact ⟨_, _, rfl, HO.out, HB.out⟩

set_option maxHeartbeats 800000 in
theorem eqInt8S_same (a b : Option Addr) (ca cb n : Nat) (xs : List (BitVec 8)) (w : World) (hx : Rd w a (I8 xs)) (hy : Rd w b (I8 xs)) (hn : xs.length = n) (bn : n ≤ 1048576) :
    Calls Try.prog 14 #[.slice a n ca, .slice b n cb] w fun e w' => e = .returned (.bool true) ∧ Below w.heap.size w w' := by
  have HN := Lib.hid hn; have HX := Lib.hid hx; have HY := Lib.hid hy
  clear hn hx hy
  have t0 : ((n : Int) != (n : Int)) = false := by simp
  go_enter Try.func14, Try.ntmps14
  go_wp2
  go_loopw [5] (fun i wr => ∃ k : Nat, k ≤ n ∧ i = .int .i64 k ∧ Below w.heap.size w wr) (fun i _ => n - (intOf i).toNat)
  case atStart => exact ⟨0, Nat.zero_le _, rfl, Below.refl _ _⟩
  case round =>
    obtain ⟨k, hk, rfl, hb⟩ := hrel
    by_cases hlt : k < n
    · have lx : k < xs.length := by rw [HN.out]; exact hlt
      obtain ⟨b1, o1, rfl, c1⟩ := at_i8 HX.out hb (Nat.le_refl _) lx
      obtain ⟨b2, o2, rfl, c2⟩ := at_i8 HY.out hb (Nat.le_refl _) lx
      obtain ⟨z, hz⟩ : ∃ z, xs[k].toInt = z := ⟨_, rfl⟩
      rw [hz] at c1 c2
      have t1 : (z != z) = false := by simp
      have HB := Lib.hid hb
      clear hb hz
      go_wp2
      go_quiet (fail)
      go_wp2
      go_roundw
      case rel => exact ⟨k + 1, by omega, by go_num, below_drewN HB.out _⟩
      case measure => simp [intOf] <;> omega
    · have HB := Lib.hid hb
      clear hb
      go_wp2
      go_ret
      exact ⟨rfl, HB.out⟩

set_option maxHeartbeats 800000 in
theorem eqUint64S_same (a b : Option Addr) (ca cb n : Nat) (xs : List (BitVec 64)) (w : World) (hx : Rd w a (U xs)) (hy : Rd w b (U xs)) (hn : xs.length = n) (bn : n ≤ 1048576) :
    Calls Try.prog 12 #[.slice a n ca, .slice b n cb] w fun e w' => e = .returned (.bool true) ∧ Below w.heap.size w w' := by
  have HN := Lib.hid hn; have HX := Lib.hid hx; have HY := Lib.hid hy
  clear hn hx hy
  have t0 : ((n : Int) != (n : Int)) = false := by simp
  go_enter Try.func12, Try.ntmps12
  go_wp2
  go_loopw [5] (fun i wr => ∃ k : Nat, k ≤ n ∧ i = .int .i64 k ∧ Below w.heap.size w wr) (fun i _ => n - (intOf i).toNat)
  case atStart => exact ⟨0, Nat.zero_le _, rfl, Below.refl _ _⟩
  case round =>
    obtain ⟨k, hk, rfl, hb⟩ := hrel
    by_cases hlt : k < n
    · have lx : k < xs.length := by rw [HN.out]; exact hlt
      obtain ⟨b1, o1, rfl, c1⟩ := at_u64 HX.out hb (Nat.le_refl _) lx
      obtain ⟨b2, o2, rfl, c2⟩ := at_u64 HY.out hb (Nat.le_refl _) lx
      obtain ⟨z, hz⟩ : ∃ z, (xs[k].toNat : Int) = z := ⟨_, rfl⟩
      rw [hz] at c1 c2
      have t1 : (z != z) = false := by simp
      have HB := Lib.hid hb
      clear hb hz
      go_wp2
      go_quiet (fail)
      go_wp2
      go_roundw
      case rel => exact ⟨k + 1, by omega, by go_num, below_drewN HB.out _⟩
      case measure => simp [intOf] <;> omega
    · have HB := Lib.hid hb
      clear hb
      go_wp2
      go_ret
      exact ⟨rfl, HB.out⟩

set_option maxHeartbeats 800000 in
theorem eqIntS_same (a b : Option Addr) (ca cb n : Nat) (xs : List Nat) (w : World) (hx : Rd w a (NI xs)) (hy : Rd w b (NI xs)) (hn : xs.length = n) (bn : n ≤ 1048576) :
    Calls Try.prog 13 #[.slice a n ca, .slice b n cb] w fun e w' => e = .returned (.bool true) ∧ Below w.heap.size w w' := by
  have HN := Lib.hid hn; have HX := Lib.hid hx; have HY := Lib.hid hy
  clear hn hx hy
  have t0 : ((n : Int) != (n : Int)) = false := by simp
  go_enter Try.func13, Try.ntmps13
  go_wp2
  go_loopw [5] (fun i wr => ∃ k : Nat, k ≤ n ∧ i = .int .i64 k ∧ Below w.heap.size w wr) (fun i _ => n - (intOf i).toNat)
  case atStart => exact ⟨0, Nat.zero_le _, rfl, Below.refl _ _⟩
  case round =>
    obtain ⟨k, hk, rfl, hb⟩ := hrel
    by_cases hlt : k < n
    · have lx : k < xs.length := by rw [HN.out]; exact hlt
      obtain ⟨b1, o1, rfl, c1⟩ := at_int HX.out hb (Nat.le_refl _) lx
      obtain ⟨b2, o2, rfl, c2⟩ := at_int HY.out hb (Nat.le_refl _) lx
      obtain ⟨z, hz⟩ : ∃ z, (xs[k] : Int) = z := ⟨_, rfl⟩
      rw [hz] at c1 c2
      have t1 : (z != z) = false := by simp
      have HB := Lib.hid hb
      clear hb hz
      go_wp2
      go_quiet (fail)
      go_wp2
      go_roundw
      case rel => exact ⟨k + 1, by omega, by go_num, below_drewN HB.out _⟩
      case measure => simp [intOf] <;> omega
    · have HB := Lib.hid hb
      clear hb
      go_wp2
      go_ret
      exact ⟨rfl, HB.out⟩

set_option maxHeartbeats 800000 in
theorem markUint64S_any (w : World) (B : Nat) (p q : List Row) (a : Option Addr) (n c k : Nat) (V : List Value) (hV : V.length = n) (ho : Owns w B (p ++ ⟨36, a, n, c, V⟩ :: q)) (bk : k ≤ 4194304) (bn : n ≤ 1048576) :
    Calls Try.prog 16 #[.slice a n c, .int .i64 (k : Int)] w fun e w' => e = .returned (.int .i64 ((k + n : Nat) : Int)) ∧ (Owns w' B (p ++ ⟨36, a, n, c, marks .u64 k n⟩ :: q)) ∧ Below B w w' := by
  obtain ⟨D, hD⟩ : ∃ D, over (marks .u64 k n) V = D := ⟨_, rfl⟩
  have HD0 : Hid (D 0 = V) := by show _ = _; rw [← hD]; exact over_zero
  have HDN : Hid (D n = marks .u64 k n) := by show _ = _; rw [← hD]; exact over_end (by simp) hV
  have HDL : Hid (∀ j, j ≤ n → (D j).length = n) := by refine Lib.hid fun j hj => ?_; rw [← hD, over_length (by rw [hV]; simp) (by simpa using hj)]; simp
  have HDS : Hid (∀ j, j < n → D (j + 1) = (D j).set j (.int .u64 ((k + j : Nat) : Int))) := by
    refine Lib.hid fun j h => ?_
    rw [← hD]
    exact over_step (by rw [hV]; simp) (by simpa using h) (marks_get h)
  clear hD
  have O0 := Lib.hid ho; have HV := Lib.hid hV
  clear ho hV
  go_enter Try.func16, Try.ntmps16
  go_wp2
  go_loopw [5, 1] (fun i s wr => ∃ j : Nat, j ≤ n ∧ i = .int .i64 j ∧ s = .int .i64 ((k + j : Nat) : Int) ∧ (Owns wr B (p ++ ⟨36, a, n, c, D j⟩ :: q)) ∧ Below B w wr) (fun i _ _ => n - (intOf i).toNat)
  case atStart => exact ⟨0, Nat.zero_le _, rfl, rfl, by rw [HD0.out]; exact O0.out, Below.refl _ _⟩
  case round =>
    clear O0
    obtain ⟨j, hj, rfl, rfl, ho, hb⟩ := hrel
    by_cases hlt : j < n
    · have lj : j < (D j).length := by rw [HDL.out j hj]; exact hlt
      have HS := Lib.hid (HDS.out j hlt)
      obtain ⟨b, rfl⟩ := ho.addr p.length mid_get lj
      have f := ho.free p.length mid_get j
      obtain ⟨u, q1⟩ := ho.has p.length mid_get lj
      obtain ⟨s, hs⟩ : ∃ s, k + j = s := ⟨_, rfl⟩
      have hsb : s ≤ 5242880 := by omega
      have HSE := Lib.hid hs
      have tw : IntKind.u64.wrap (s : Int) = (s : Int) := by rw [IntKind.wrap_u64]; omega
      rw [hs] at HS
      obtain ⟨ho2, hb2⟩ := Owns.stored (p := p) ho rfl j (.int .u64 (s : Int))
      have HO : Hid (Owns (wr.setCell ⟨b, j, none⟩ (.int .u64 (s : Int))) B (p ++ ⟨36, some ⟨b, 0, none⟩, n, c, D (j + 1)⟩ :: q)) := by
        refine Lib.hid ?_
        rw [HS.out]
        exact ho2
      have HB := Lib.hid (hb.trans hb2)
      rw [hs]
      clear ho hb ho2 hb2 hs
      go_wp2
      go_roundw
      case rel => exact ⟨j + 1, by omega, by go_num, by rw [show k + (j + 1) = s + 1 by have := HSE.out; omega]; go_num, HO.out, HB.out⟩
      case measure => simp [intOf] <;> omega
    · have hjn : n = j := by omega
      subst hjn
      rw [HDN.out] at ho
      have HO := Lib.hid ho; have HB := Lib.hid hb
      clear ho hb
      go_wp2
      go_ret
      exact ⟨rfl, HO.out, HB.out⟩

set_option maxHeartbeats 800000 in
theorem markIntS_any (w : World) (B : Nat) (p q : List Row) (a : Option Addr) (n c k : Nat) (V : List Value) (hV : V.length = n) (ho : Owns w B (p ++ ⟨3, a, n, c, V⟩ :: q)) (bk : k ≤ 4194304) (bn : n ≤ 1048576) :
    Calls Try.prog 17 #[.slice a n c, .int .i64 (k : Int)] w fun e w' => e = .returned (.int .i64 ((k + n : Nat) : Int)) ∧ (Owns w' B (p ++ ⟨3, a, n, c, marks .i64 k n⟩ :: q)) ∧ Below B w w' := by
  obtain ⟨D, hD⟩ : ∃ D, over (marks .i64 k n) V = D := ⟨_, rfl⟩
  have HD0 : Hid (D 0 = V) := by show _ = _; rw [← hD]; exact over_zero
  have HDN : Hid (D n = marks .i64 k n) := by show _ = _; rw [← hD]; exact over_end (by simp) hV
  have HDL : Hid (∀ j, j ≤ n → (D j).length = n) := by refine Lib.hid fun j hj => ?_; rw [← hD, over_length (by rw [hV]; simp) (by simpa using hj)]; simp
  have HDS : Hid (∀ j, j < n → D (j + 1) = (D j).set j (.int .i64 ((k + j : Nat) : Int))) := by
    refine Lib.hid fun j h => ?_
    rw [← hD]
    exact over_step (by rw [hV]; simp) (by simpa using h) (marks_get h)
  clear hD
  have O0 := Lib.hid ho; have HV := Lib.hid hV
  clear ho hV
  go_enter Try.func17, Try.ntmps17
  go_wp2
  go_loopw [5, 1] (fun i s wr => ∃ j : Nat, j ≤ n ∧ i = .int .i64 j ∧ s = .int .i64 ((k + j : Nat) : Int) ∧ (Owns wr B (p ++ ⟨3, a, n, c, D j⟩ :: q)) ∧ Below B w wr) (fun i _ _ => n - (intOf i).toNat)
  case atStart => exact ⟨0, Nat.zero_le _, rfl, rfl, by rw [HD0.out]; exact O0.out, Below.refl _ _⟩
  case round =>
    clear O0
    obtain ⟨j, hj, rfl, rfl, ho, hb⟩ := hrel
    by_cases hlt : j < n
    · have lj : j < (D j).length := by rw [HDL.out j hj]; exact hlt
      have HS := Lib.hid (HDS.out j hlt)
      obtain ⟨b, rfl⟩ := ho.addr p.length mid_get lj
      have f := ho.free p.length mid_get j
      obtain ⟨u, q1⟩ := ho.has p.length mid_get lj
      obtain ⟨s, hs⟩ : ∃ s, k + j = s := ⟨_, rfl⟩
      have hsb : s ≤ 5242880 := by omega
      have HSE := Lib.hid hs
      rw [hs] at HS
      obtain ⟨ho2, hb2⟩ := Owns.stored (p := p) ho rfl j (.int .i64 (s : Int))
      have HO : Hid (Owns (wr.setCell ⟨b, j, none⟩ (.int .i64 (s : Int))) B (p ++ ⟨3, some ⟨b, 0, none⟩, n, c, D (j + 1)⟩ :: q)) := by
        refine Lib.hid ?_
        rw [HS.out]
        exact ho2
      have HB := Lib.hid (hb.trans hb2)
      rw [hs]
      clear ho hb ho2 hb2 hs
      go_wp2
      go_roundw
      case rel => exact ⟨j + 1, by omega, by go_num, by rw [show k + (j + 1) = s + 1 by have := HSE.out; omega]; go_num, HO.out, HB.out⟩
      case measure => simp [intOf] <;> omega
    · have hjn : n = j := by omega
      subst hjn
      rw [HDN.out] at ho
      have HO := Lib.hid ho; have HB := Lib.hid hb
      clear ho hb
      go_wp2
      go_ret
      exact ⟨rfl, HO.out, HB.out⟩

set_option maxHeartbeats 800000 in
theorem markInt8S_any (w : World) (B : Nat) (p q : List Row) (a : Option Addr) (n c k : Nat) (V : List Value) (hV : V.length = n) (ho : Owns w B (p ++ ⟨37, a, n, c, V⟩ :: q)) (bk : k ≤ 4194304) (bn : n ≤ 1048576) :
    Calls Try.prog 15 #[.slice a n c, .int .i64 (k : Int)] w fun e w' => e = .returned (.int .i64 ((k + n : Nat) : Int)) ∧ (∃ V', Owns w' B (p ++ ⟨37, a, n, c, V'⟩ :: q)) ∧ Below B w w' := by
  have O0 := Lib.hid ho; have HV := Lib.hid hV
  clear ho hV
  go_enter Try.func15, Try.ntmps15
  go_wp2
  go_loopw [5, 1] (fun i s wr => ∃ j : Nat, j ≤ n ∧ i = .int .i64 j ∧ s = .int .i64 ((k + j : Nat) : Int) ∧ (∃ V', V'.length = n ∧ Owns wr B (p ++ ⟨37, a, n, c, V'⟩ :: q)) ∧ Below B w wr) (fun i _ _ => n - (intOf i).toNat)
  case atStart => exact ⟨0, Nat.zero_le _, rfl, rfl, ⟨V, HV.out, O0.out⟩, Below.refl _ _⟩
  case round =>
    clear O0
    obtain ⟨j, hj, rfl, rfl, ⟨V', hV', ho⟩, hb⟩ := hrel
    by_cases hlt : j < n
    · have lj : j < V'.length := by rw [hV']; exact hlt
      obtain ⟨b, rfl⟩ := ho.addr p.length mid_get lj
      have f := ho.free p.length mid_get j
      obtain ⟨u, q1⟩ := ho.has p.length mid_get lj
      obtain ⟨s, hs⟩ : ∃ s, k + j = s := ⟨_, rfl⟩
      have hsb : s ≤ 5242880 := by omega
      have HSE := Lib.hid hs
      obtain ⟨z, hz⟩ : ∃ z, IntKind.i8.wrap (s : Int) = z := ⟨_, rfl⟩
      obtain ⟨ho2, hb2⟩ := Owns.stored (p := p) ho rfl j (.int .i8 z)
      have HVV : Hid ((V'.set j (.int .i8 z)).length = n) := by refine Lib.hid ?_; rw [List.length_set]; exact hV'
      have HO := Lib.hid ho2
      clear hV'
      have HB := Lib.hid (hb.trans hb2)
      rw [hs]
      clear ho hb ho2 hb2 hs
      go_wp2
      go_roundw
      case rel => exact ⟨j + 1, by omega, by go_num, by rw [show k + (j + 1) = s + 1 by have := HSE.out; omega]; go_num, ⟨_, HVV.out, HO.out⟩, HB.out⟩
      case measure => simp [intOf] <;> omega
    · have hjn : n = j := by omega
      subst hjn
      have HO := Lib.hid ho; have HB := Lib.hid hb
      clear ho hb
      go_wp2
      go_ret
      exact ⟨rfl, ⟨_, HO.out⟩, HB.out⟩

set_option maxHeartbeats 800000 in
theorem heldUint64S_any (w : World) (a : Option Addr) (n c k : Nat) (hx : Rd w a (marks .u64 k n)) (bk : k ≤ 4194304) (bn : n ≤ 1048576) :
    Calls Try.prog 18 #[.slice a n c, .int .i64 (k : Int)] w fun e w' => e = .returned (.int .i64 ((k + n : Nat) : Int)) ∧ Below w.heap.size w w' := by
  have HX := Lib.hid hx
  clear hx
  go_enter Try.func18, Try.ntmps18
  go_wp2
  go_loopw [5, 1] (fun i s wr => ∃ j : Nat, j ≤ n ∧ i = .int .i64 j ∧ s = .int .i64 ((k + j : Nat) : Int) ∧ Below w.heap.size w wr) (fun i _ _ => n - (intOf i).toNat)
  case atStart => exact ⟨0, Nat.zero_le _, rfl, rfl, Below.refl _ _⟩
  case round =>
    obtain ⟨j, hj, rfl, rfl, hb⟩ := hrel
    by_cases hlt : j < n
    · obtain ⟨b1, o1, rfl, c1⟩ := (HX.out.mono hb (Nat.le_refl _)) j (by simpa using hlt)
      rw [marks_get hlt] at c1
      obtain ⟨s, hs⟩ : ∃ s, k + j = s := ⟨_, rfl⟩
      have hsb : s ≤ 5242880 := by omega
      rw [hs] at c1 ⊢
      have HSE := Lib.hid hs
      have tw : IntKind.u64.wrap (s : Int) = (s : Int) := by rw [IntKind.wrap_u64]; omega
      have t1 : ((s : Int) != (s : Int)) = false := by simp
      have HB := Lib.hid hb
      clear hb hs
      go_wp2
      go_roundw
      case rel => exact ⟨j + 1, by omega, by go_num, by rw [show k + (j + 1) = s + 1 by have := HSE.out; omega]; go_num, HB.out⟩
      case measure => simp [intOf] <;> omega
    · have hjn : n = j := by omega
      subst hjn
      have HB := Lib.hid hb
      clear hb
      go_wp2
      go_ret
      exact ⟨rfl, HB.out⟩

set_option maxHeartbeats 800000 in
theorem heldIntS_any (w : World) (a : Option Addr) (n c k : Nat) (hx : Rd w a (marks .i64 k n)) (bk : k ≤ 4194304) (bn : n ≤ 1048576) :
    Calls Try.prog 19 #[.slice a n c, .int .i64 (k : Int)] w fun e w' => e = .returned (.int .i64 ((k + n : Nat) : Int)) ∧ Below w.heap.size w w' := by
  have HX := Lib.hid hx
  clear hx
  go_enter Try.func19, Try.ntmps19
  go_wp2
  go_loopw [5, 1] (fun i s wr => ∃ j : Nat, j ≤ n ∧ i = .int .i64 j ∧ s = .int .i64 ((k + j : Nat) : Int) ∧ Below w.heap.size w wr) (fun i _ _ => n - (intOf i).toNat)
  case atStart => exact ⟨0, Nat.zero_le _, rfl, rfl, Below.refl _ _⟩
  case round =>
    obtain ⟨j, hj, rfl, rfl, hb⟩ := hrel
    by_cases hlt : j < n
    · obtain ⟨b1, o1, rfl, c1⟩ := (HX.out.mono hb (Nat.le_refl _)) j (by simpa using hlt)
      rw [marks_get hlt] at c1
      obtain ⟨s, hs⟩ : ∃ s, k + j = s := ⟨_, rfl⟩
      have hsb : s ≤ 5242880 := by omega
      rw [hs] at c1 ⊢
      have HSE := Lib.hid hs
      have tw : IntKind.u64.wrap (s : Int) = (s : Int) := by rw [IntKind.wrap_u64]; omega
      have t1 : ((s : Int) != (s : Int)) = false := by simp
      have HB := Lib.hid hb
      clear hb hs
      go_wp2
      go_roundw
      case rel => exact ⟨j + 1, by omega, by go_num, by rw [show k + (j + 1) = s + 1 by have := HSE.out; omega]; go_num, HB.out⟩
      case measure => simp [intOf] <;> omega
    · have hjn : n = j := by omega
      subst hjn
      have HB := Lib.hid hb
      clear hb
      go_wp2
      go_ret
      exact ⟨rfl, HB.out⟩

end Go.Proofs.Ytjjmjjbeecmmlaf
