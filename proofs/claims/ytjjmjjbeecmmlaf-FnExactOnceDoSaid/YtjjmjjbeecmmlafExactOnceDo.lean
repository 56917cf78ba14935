/-
  The walk of FnExactOnceDo.
-/
import Derived.Test.YtjjmjjbeecmmlafSpecDo
namespace Go.Proofs.Ytjjmjjbeecmmlaf
set_option linter.unusedVariables false
set_option linter.unusedSimpArgs false
open Go.RowKit

set_option maxHeartbeats 6400000 in
set_option maxRecDepth 100000 in
theorem fnExactOnceDo_any (w : World) (a0 : Option Addr) (n0 c0 : Nat) (x0 : List (BitVec 8)) (k0 : Came w a0 n0 c0 (I8 x0)) (a1 : Option Addr) (n1 c1 : Nat) (x1 : List (BitVec 64)) (k1 : Came w a1 n1 c1 (U x1)) (bd0 : n0 * 1 ≤ 140737488351232) (bd1 : n1 * 8 ≤ 140737488351232) :
    Calls Try.prog 3 #[.slice a0 n0 c0, .slice a1 n1 c1] w fun e w' => e = .returned (.bool true) ∧ Below w.heap.size w w' := by
  have hnot : ∀ (x : Bool) (w : World), (Op.unary .not (.bool x)).run Try.prog w = .ok (.bool (!x)) w := fun _ _ => rfl
  by_cases hb0 : 1048576 < n0
  · have t : (1048576 : Int) < (n0 : Int) := by omega
    go_enter Try.func3, Try.ntmps3
    go_wp2
    go_ret
    exact ⟨rfl, Below.refl _ _⟩
  by_cases hb1 : 1048576 < n1
  · have t0 : ¬ (1048576 : Int) < (n0 : Int) := by omega
    have t : (1048576 : Int) < (n1 : Int) := by omega
    go_enter Try.func3, Try.ntmps3
    go_wp2
    go_ret
    exact ⟨rfl, Below.refl _ _⟩
  have t0 : ¬ (1048576 : Int) < (n0 : Int) := by omega
  have t1 : ¬ (1048576 : Int) < (n1 : Int) := by omega
  have K0 := Lib.hid k0.i8; have K1 := Lib.hid k1.u64
  clear k0 k1
  obtain ⟨n, hmin⟩ : ∃ n, (n1 < n0 ∧ n = n1) ∨ (¬ n1 < n0 ∧ n = n0) := by
    by_cases h : n1 < n0
    · exact ⟨n1, .inl ⟨h, rfl⟩⟩
    · exact ⟨n0, .inr ⟨h, rfl⟩⟩
  have hnn : n ≤ n0 ∧ n ≤ n1 := by omega
  obtain ⟨G, hG⟩ : ∃ G, places x0 = G := ⟨_, rfl⟩
  obtain ⟨seen, hseen⟩ : ∃ s, seenDo G x1 n = s := ⟨_, rfl⟩
  obtain ⟨ran, hran⟩ : ∃ r, (doAt G x1 n).1 = r := ⟨_, rfl⟩
  have HSL : Hid (seen.length = n) := by show _ = _; rw [← hseen]; simp [seenDo]
  have hrl : ran.length ≤ n := by rw [← hran]; exact doAt_short n
  have HG := Lib.hid hG; have HSN := Lib.hid hseen; have HRN := Lib.hid hran; have HMN := Lib.hid hmin
  clear hG hseen hran hmin
  obtain ⟨m, hm⟩ : ∃ m, 1 + n + ran.length = m := ⟨_, rfl⟩
  obtain ⟨k, hk⟩ : ∃ k, 1 + n0 + n1 = k := ⟨_, rfl⟩
  have HM := Lib.hid hm; have HK := Lib.hid hk
  have tm : ((m : Int) != (m : Int)) = false := by simp
  have tm0 : ¬ (m : Int) < 0 := by omega
  have tn0 : ¬ ((1 + n : Nat) : Int) < 0 := by omega
  have tk0 : ¬ (k : Int) < 0 := by omega
  clear hm hk
  have O0 := Lib.hid (Owns.nil w w.heap.size); have B0 := Lib.hid (Below.refl w.heap.size w)
  have hz0 : w.heap.size ≤ w.heap.size := Nat.le_refl _
  go_enter Try.func3, Try.ntmps3
  go_wp2_with fail
  refine (toInt8S_any w a0 n0 c0 x0 K0.out.1 K0.out.2.1 (by omega)).mono ?_
  rintro e w1 ⟨s0, d0, rfl, ho, hb⟩
  have O1 := Lib.hid (O0.out.more hb ho hz0); have B1 := Lib.hid (Below.more B0.out hb hz0)
  have hz1 : w.heap.size ≤ w1.heap.size := B1.out.size
  clear ho hb O0 B0 hz0
  go_wp2_with fail
  refine (toUint64S_any w1 a1 n1 c1 x1 (K1.out.1.mono B1.out (Nat.le_refl _)) K1.out.2.1 (by omega)).mono ?_
  rintro e w2 ⟨s1, d1, rfl, ho, hb⟩
  have O2 := Lib.hid (O1.out.more hb ho hz1); have B2 := Lib.hid (Below.more B1.out hb hz1)
  have hz2 : w.heap.size ≤ w2.heap.size := B2.out.size
  clear ho hb O1 B1 hz1
  go_wp2_with fail
  refine (specDo_any w2 s0 s1 n0 n1 d0 d1 n x0 x1 K0.out.2.1 (O2.out.rdAt 0 rfl) K1.out.2.1 (O2.out.rdAt 1 rfl) (by omega) (by omega) HMN.out G HG.out seen HSN.out ran HRN.out).mono ?_
  rintro e w3 ⟨s2, d2, s3, d3, rfl, ho, hb⟩
  have O3 := Lib.hid (O2.out.more hb ho hz2); have B3 := Lib.hid (Below.more B2.out hb hz2)
  have hz3 : w.heap.size ≤ w3.heap.size := B3.out.size
  clear ho hb O2 B2 hz2
  go_wp2_with fail
  refine (toInt8S_any w3 a0 n0 c0 x0 (K0.out.1.mono B3.out (Nat.le_refl _)) K0.out.2.1 (by omega)).mono ?_
  rintro e w4 ⟨s4, d4, rfl, ho, hb⟩
  have O4 := Lib.hid (O3.out.more hb ho hz3); have B4 := Lib.hid (Below.more B3.out hb hz3)
  have hz4 : w.heap.size ≤ w4.heap.size := B4.out.size
  clear ho hb O3 B3 hz3
  go_wp2_with fail
  refine (toUint64S_any w4 a1 n1 c1 x1 (K1.out.1.mono B4.out (Nat.le_refl _)) K1.out.2.1 (by omega)).mono ?_
  rintro e w5 ⟨s5, d5, rfl, ho, hb⟩
  have O5 := Lib.hid (O4.out.more hb ho hz4); have B5 := Lib.hid (Below.more B4.out hb hz4)
  have hz5 : w.heap.size ≤ w5.heap.size := B5.out.size
  clear ho hb O4 B4 hz4
  go_wp2_with fail
  refine (onceDo_any w5 s4 s5 n0 n1 d4 d5 n x0 x1 K0.out.2.1 (O5.out.rdAt 4 rfl) K1.out.2.1 (O5.out.rdAt 5 rfl) (by omega) (by omega) HMN.out G HG.out seen HSN.out ran HRN.out).mono ?_
  rintro e w6 ⟨s6, d6, s7, d7, rfl, ho, hb⟩
  have O6 := Lib.hid (O5.out.more hb ho hz5); have B6 := Lib.hid (Below.more B5.out hb hz5)
  have hz6 : w.heap.size ≤ w6.heap.size := B6.out.size
  clear ho hb O5 B5 hz5
  go_wp2_with fail
  refine (eqUint64S_same s6 s2 d6 d2 n seen w6 (O6.out.rdAt 6 rfl) (O6.out.rdAt 2 rfl) HSL.out (by omega)).mono ?_
  rintro e w7 ⟨rfl, hb⟩
  have O7 := Lib.hid (O6.out.mono hb (Nat.le_refl _)); have B7 := Lib.hid (Below.more B6.out hb hz6)
  have hz7 : w.heap.size ≤ w7.heap.size := B7.out.size
  clear hb O6 B6 hz6
  go_wp2_with fail
  refine (eqIntS_same s7 s3 d7 d3 ran.length ran w7 (O7.out.rdAt 7 rfl) (O7.out.rdAt 3 rfl) rfl (by omega)).mono ?_
  rintro e w8 ⟨rfl, hb⟩
  have O8 := Lib.hid (O7.out.mono hb (Nat.le_refl _)); have B8 := Lib.hid (Below.more B7.out hb hz7)
  have hz8 : w.heap.size ≤ w8.heap.size := B8.out.size
  clear hb O7 B7 hz7
  go_wp2_with fail
  refine (toInt8S_any w8 a0 n0 c0 x0 (K0.out.1.mono B8.out (Nat.le_refl _)) K0.out.2.1 (by omega)).mono ?_
  rintro e w9 ⟨s8, d8, rfl, ho, hb⟩
  have O9 := Lib.hid (O8.out.more hb ho hz8); have B9 := Lib.hid (Below.more B8.out hb hz8)
  have hz9 : w.heap.size ≤ w9.heap.size := B9.out.size
  clear ho hb O8 B8 hz8
  go_wp2_with fail
  refine (eqInt8S_same s4 s8 d4 d8 n0 x0 w9 (O9.out.rdAt 4 rfl) (O9.out.rdAt 8 rfl) K0.out.2.1 (by omega)).mono ?_
  rintro e w10 ⟨rfl, hb⟩
  have O10 := Lib.hid (O9.out.mono hb (Nat.le_refl _)); have B10 := Lib.hid (Below.more B9.out hb hz9)
  have hz10 : w.heap.size ≤ w10.heap.size := B10.out.size
  clear hb O9 B9 hz9
  go_wp2_with fail
  refine (toUint64S_any w10 a1 n1 c1 x1 (K1.out.1.mono B10.out (Nat.le_refl _)) K1.out.2.1 (by omega)).mono ?_
  rintro e w11 ⟨s9, d9, rfl, ho, hb⟩
  have O11 := Lib.hid (O10.out.more hb ho hz10); have B11 := Lib.hid (Below.more B10.out hb hz10)
  have hz11 : w.heap.size ≤ w11.heap.size := B11.out.size
  clear ho hb O10 B10 hz10
  go_wp2_with fail
  refine (eqUint64S_same s5 s9 d5 d9 n1 x1 w11 (O11.out.rdAt 5 rfl) (O11.out.rdAt 9 rfl) K1.out.2.1 (by omega)).mono ?_
  rintro e w12 ⟨rfl, hb⟩
  have O12 := Lib.hid (O11.out.mono hb (Nat.le_refl _)); have B12 := Lib.hid (Below.more B11.out hb hz11)
  have hz12 : w.heap.size ≤ w12.heap.size := B12.out.size
  clear hb O11 B11 hz11
  go_wp2_with fail
  refine (markInt8S_any w12 w.heap.size [_, _, _, _] [_, _, _, _, _] s4 n0 d4 1 (I8 x0) (by simp [I8, K0.out.2.1]) O12.out (by omega) (by omega)).mono ?_
  rintro e w13 ⟨rfl, ⟨V4, ho⟩, hb⟩
  have O13 : Hid (Owns w13 w.heap.size [⟨37, s0, n0, d0, I8 x0⟩, ⟨36, s1, n1, d1, U x1⟩, ⟨36, s2, n, d2, U seen⟩, ⟨3, s3, ran.length, d3, NI ran⟩, ⟨37, s4, n0, d4, V4⟩, ⟨36, s5, n1, d5, U x1⟩, ⟨36, s6, n, d6, U seen⟩, ⟨3, s7, ran.length, d7, NI ran⟩, ⟨37, s8, n0, d8, I8 x0⟩, ⟨36, s9, n1, d9, U x1⟩]) := Lib.hid ho
  have B13 := Lib.hid (B12.out.trans hb)
  clear ho hb O12 B12 hz12
  go_wp2_with fail
  refine (markUint64S_any w13 w.heap.size [_, _, _, _, _] [_, _, _, _] s5 n1 d5 (1 + n0) (U x1) (by simp [K1.out.2.1]) O13.out (by omega) (by omega)).mono ?_
  rintro e w14 ⟨rfl, ho, hb⟩
  have O14 : Hid (Owns w14 w.heap.size [⟨37, s0, n0, d0, I8 x0⟩, ⟨36, s1, n1, d1, U x1⟩, ⟨36, s2, n, d2, U seen⟩, ⟨3, s3, ran.length, d3, NI ran⟩, ⟨37, s4, n0, d4, V4⟩, ⟨36, s5, n1, d5, marks .u64 (1 + n0) n1⟩, ⟨36, s6, n, d6, U seen⟩, ⟨3, s7, ran.length, d7, NI ran⟩, ⟨37, s8, n0, d8, I8 x0⟩, ⟨36, s9, n1, d9, U x1⟩]) := Lib.hid ho
  have B14 := Lib.hid (B13.out.trans hb)
  have hz14 : w.heap.size ≤ w14.heap.size := B14.out.size
  clear ho hb O13 B13
  rw [HK.out]
  go_wp2_with fail
  refine (eqUint64S_same s6 s2 d6 d2 n seen w14 (O14.out.rdAt 6 rfl) (O14.out.rdAt 2 rfl) HSL.out (by omega)).mono ?_
  rintro e w15 ⟨rfl, hb⟩
  have O15 := Lib.hid (O14.out.mono hb (Nat.le_refl _)); have B15 := Lib.hid (Below.more B14.out hb hz14)
  have hz15 : w.heap.size ≤ w15.heap.size := B15.out.size
  clear hb O14 B14 hz14
  go_wp2_with fail
  refine (eqIntS_same s7 s3 d7 d3 ran.length ran w15 (O15.out.rdAt 7 rfl) (O15.out.rdAt 3 rfl) rfl (by omega)).mono ?_
  rintro e w16 ⟨rfl, hb⟩
  have O16 := Lib.hid (O15.out.mono hb (Nat.le_refl _)); have B16 := Lib.hid (Below.more B15.out hb hz15)
  have hz16 : w.heap.size ≤ w16.heap.size := B16.out.size
  clear hb O15 B15 hz15
  go_wp2_with fail
  refine (markUint64S_any w16 w.heap.size [_, _, _, _, _, _] [_, _, _] s6 n d6 1 (U seen) (by simp [HSL.out]) O16.out (by omega) (by omega)).mono ?_
  rintro e w17 ⟨rfl, ho, hb⟩
  have O17 : Hid (Owns w17 w.heap.size [⟨37, s0, n0, d0, I8 x0⟩, ⟨36, s1, n1, d1, U x1⟩, ⟨36, s2, n, d2, U seen⟩, ⟨3, s3, ran.length, d3, NI ran⟩, ⟨37, s4, n0, d4, V4⟩, ⟨36, s5, n1, d5, marks .u64 (1 + n0) n1⟩, ⟨36, s6, n, d6, marks .u64 1 n⟩, ⟨3, s7, ran.length, d7, NI ran⟩, ⟨37, s8, n0, d8, I8 x0⟩, ⟨36, s9, n1, d9, U x1⟩]) := Lib.hid ho
  have B17 := Lib.hid (B16.out.trans hb)
  clear ho hb O16 B16 hz16
  go_wp2_with fail
  refine (markIntS_any w17 w.heap.size [_, _, _, _, _, _, _] [_, _] s7 ran.length d7 (1 + n) (NI ran) (by simp [NI]) O17.out (by omega) (by omega)).mono ?_
  rintro e w18 ⟨rfl, ho, hb⟩
  have O18 : Hid (Owns w18 w.heap.size [⟨37, s0, n0, d0, I8 x0⟩, ⟨36, s1, n1, d1, U x1⟩, ⟨36, s2, n, d2, U seen⟩, ⟨3, s3, ran.length, d3, NI ran⟩, ⟨37, s4, n0, d4, V4⟩, ⟨36, s5, n1, d5, marks .u64 (1 + n0) n1⟩, ⟨36, s6, n, d6, marks .u64 1 n⟩, ⟨3, s7, ran.length, d7, marks .i64 (1 + n) ran.length⟩, ⟨37, s8, n0, d8, I8 x0⟩, ⟨36, s9, n1, d9, U x1⟩]) := Lib.hid ho
  have B18 := Lib.hid (B17.out.trans hb)
  have hz18 : w.heap.size ≤ w18.heap.size := B18.out.size
  clear ho hb O17 B17
  rw [HM.out]
  go_wp2_with fail
  refine (heldUint64S_any w18 s6 n d6 1 (O18.out.rdAt 6 rfl) (by omega) (by omega)).mono ?_
  rintro e w19 ⟨rfl, hb⟩
  have O19 := Lib.hid (O18.out.mono hb (Nat.le_refl _)); have B19 := Lib.hid (Below.more B18.out hb hz18)
  have hz19 : w.heap.size ≤ w19.heap.size := B19.out.size
  clear hb O18 B18 hz18
  go_wp2_with fail
  refine (heldIntS_any w19 s7 ran.length d7 (1 + n) (O19.out.rdAt 7 rfl) (by omega) (by omega)).mono ?_
  rintro e w20 ⟨rfl, hb⟩
  have O20 := Lib.hid (O19.out.mono hb (Nat.le_refl _)); have B20 := Lib.hid (Below.more B19.out hb hz19)
  have hz20 : w.heap.size ≤ w20.heap.size := B20.out.size
  clear hb O19 B19 hz19
  rw [HM.out]
  go_wp2_with fail
  refine (toInt8S_any w20 a0 n0 c0 x0 (K0.out.1.mono B20.out (Nat.le_refl _)) K0.out.2.1 (by omega)).mono ?_
  rintro e w21 ⟨s10, d10, rfl, ho, hb⟩
  have O21 := Lib.hid (O20.out.more hb ho hz20); have B21 := Lib.hid (Below.more B20.out hb hz20)
  have hz21 : w.heap.size ≤ w21.heap.size := B21.out.size
  clear ho hb O20 B20 hz20
  go_wp2_with fail
  refine (toUint64S_any w21 a1 n1 c1 x1 (K1.out.1.mono B21.out (Nat.le_refl _)) K1.out.2.1 (by omega)).mono ?_
  rintro e w22 ⟨s11, d11, rfl, ho, hb⟩
  have O22 := Lib.hid (O21.out.more hb ho hz21); have B22 := Lib.hid (Below.more B21.out hb hz21)
  have hz22 : w.heap.size ≤ w22.heap.size := B22.out.size
  clear ho hb O21 B21 hz21
  go_wp2_with fail
  refine (onceDo_any w22 s10 s11 n0 n1 d10 d11 n x0 x1 K0.out.2.1 (O22.out.rdAt 10 rfl) K1.out.2.1 (O22.out.rdAt 11 rfl) (by omega) (by omega) HMN.out G HG.out seen HSN.out ran HRN.out).mono ?_
  rintro e w23 ⟨s12, d12, s13, d13, rfl, ho, hb⟩
  have O23 := Lib.hid (O22.out.more hb ho hz22); have B23 := Lib.hid (Below.more B22.out hb hz22)
  have hz23 : w.heap.size ≤ w23.heap.size := B23.out.size
  clear ho hb O22 B22 hz22
  go_wp2_with fail
  refine (eqUint64S_same s12 s2 d12 d2 n seen w23 (O23.out.rdAt 12 rfl) (O23.out.rdAt 2 rfl) HSL.out (by omega)).mono ?_
  rintro e w24 ⟨rfl, hb⟩
  have O24 := Lib.hid (O23.out.mono hb (Nat.le_refl _)); have B24 := Lib.hid (Below.more B23.out hb hz23)
  have hz24 : w.heap.size ≤ w24.heap.size := B24.out.size
  clear hb O23 B23 hz23
  go_wp2_with fail
  refine (eqIntS_same s13 s3 d13 d3 ran.length ran w24 (O24.out.rdAt 13 rfl) (O24.out.rdAt 3 rfl) rfl (by omega)).mono ?_
  rintro e w25 ⟨rfl, hb⟩
  have O25 := Lib.hid (O24.out.mono hb (Nat.le_refl _)); have B25 := Lib.hid (Below.more B24.out hb hz24)
  have hz25 : w.heap.size ≤ w25.heap.size := B25.out.size
  clear hb O24 B24 hz24
  go_wp2_with fail
  refine (heldUint64S_any w25 s6 n d6 1 (O25.out.rdAt 6 rfl) (by omega) (by omega)).mono ?_
  rintro e w26 ⟨rfl, hb⟩
  have O26 := Lib.hid (O25.out.mono hb (Nat.le_refl _)); have B26 := Lib.hid (Below.more B25.out hb hz25)
  have hz26 : w.heap.size ≤ w26.heap.size := B26.out.size
  clear hb O25 B25 hz25
  go_wp2_with fail
  refine (heldIntS_any w26 s7 ran.length d7 (1 + n) (O26.out.rdAt 7 rfl) (by omega) (by omega)).mono ?_
  rintro e w27 ⟨rfl, hb⟩
  have O27 := Lib.hid (O26.out.mono hb (Nat.le_refl _)); have B27 := Lib.hid (Below.more B26.out hb hz26)
  have hz27 : w.heap.size ≤ w27.heap.size := B27.out.size
  clear hb O26 B26 hz26
  rw [HM.out]
  go_wp2
  go_ret
  exact ⟨rfl, B27.out⟩
end Go.Proofs.Ytjjmjjbeecmmlaf
