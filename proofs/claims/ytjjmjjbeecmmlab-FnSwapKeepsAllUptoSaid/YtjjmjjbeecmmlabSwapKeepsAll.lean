/-
  The walk of FnSwapKeepsAll: behind swaps, what came out and what is there are what was there and what was put in.
-/
import Derived.Test.YtjjmjjbeecmmlabOrdered
import Derived.Test.YtjjmjjbeecmmlabSlices
import Derived.Test.YtjjmjjbeecmmlabFrame
namespace Go.Proofs.Ytjjmjjbeecmmlab
set_option linter.unusedVariables false
set_option linter.unusedSimpArgs false
open Go.RowKit

def swapsOf (sc : List (Call 64)) : List (Call 64) := sc.map fun d => { d with kind := 3#8 }
section
variable {sc : List (Call 64)}
theorem swapsOf_kinds : kindsOf (swapsOf sc) = (kindsOf sc).map fun _ => 3#8 := by simp [swapsOf, kindsOf]
theorem swapsOf_cells : cellsOf (swapsOf sc) = cellsOf sc := by simp [swapsOf, cellsOf]
theorem swapsOf_as : asOf (swapsOf sc) = asOf sc := by simp [swapsOf, asOf]
theorem swapsOf_bs : bsOf (swapsOf sc) = bsOf sc := by simp [swapsOf, bsOf]
theorem swapsOf_length : (swapsOf sc).length = sc.length := by simp [swapsOf]
theorem swapsOf_cell {n : Nat} (h : ∀ d ∈ sc, d.cell < n) : ∀ d ∈ swapsOf sc, d.cell < n := by
  intro d hd
  obtain ⟨e, he, rfl⟩ := List.mem_map.1 hd
  exact h e he
theorem swapsOf_kind : ∀ d ∈ swapsOf sc, d.kind = 3#8 := by
  intro d hd
  obtain ⟨e, he, rfl⟩ := List.mem_map.1 hd
  rfl
end

set_option maxHeartbeats 3200000 in
set_option maxRecDepth 100000 in
theorem fnSwapKeepsAll_any (w : World) (a0 : Option Addr) (n0 c0 : Nat) (x0 : List (BitVec 64)) (k0 : Came w a0 n0 c0 (U x0)) (a1 : Option Addr) (n1 c1 : Nat) (x1 : List (BitVec 8)) (k1 : Came w a1 n1 c1 (U8 x1)) (a2 : Option Addr) (n2 c2 : Nat) (x2 : List (BitVec 64)) (k2 : Came w a2 n2 c2 (U x2)) (bd : n0 + n1 + n2 ≤ 1048576) :
    Calls Try.prog 4 #[.slice a0 n0 c0, .slice a1 n1 c1, .slice a2 n2 c2] w fun e w' => e = .returned (.bool true) ∧ Below w.heap.size w w' := by
  obtain ⟨i0, hi, hzz0, hzz1, hzz2⟩ := info_parts info30
  have K0 := Lib.hid k0.u64; have K1 := Lib.hid k1.u8; have K2 := Lib.hid k2.u64
  clear k0 k1 k2
  by_cases h0 : n0 = 0
  · subst h0
    go_enter Try.func4, Try.ntmps4
    go_wp2
    go_ret
    exact ⟨rfl, Below.refl _ _⟩
  have t0 : ((n0 : Int) == 0) = false := by simp; omega
  have t1 : ((n1 : Int) != (n1 : Int)) = false := by simp
  have t2 : ((n0 : Int) != (n0 : Int)) = false := by simp
  have p0 : 0 < n0 := by omega
  obtain ⟨sc, hsc⟩ : ∃ sc, scriptOf x1 x2 n0 = sc := ⟨_, rfl⟩
  have HL : Hid (sc.length = n1) := by show _ = _; rw [← hsc, scriptOf_length, K1.out.2.1]
  have HC : Hid (∀ c ∈ sc, c.cell < n0) := by show ∀ c ∈ sc, _; rw [← hsc]; exact scriptOf_cell p0
  have HSC := Lib.hid hsc
  clear hsc
  obtain ⟨sc', hsc'⟩ : ∃ sc', swapsOf sc = sc' := ⟨_, rfl⟩
  have HL' : Hid (sc'.length = n1) := by show _ = _; rw [← hsc', swapsOf_length, HL.out]
  have HC' : Hid (∀ c ∈ sc', c.cell < n0) := by show ∀ c ∈ sc', _; rw [← hsc']; exact swapsOf_cell HC.out
  have HKA : Hid (asOf sc = asOf sc' ∧ bsOf sc = bsOf sc' ∧ cellsOf sc = cellsOf sc' ∧ ((kindsOf sc).map fun _ => 3#8) = kindsOf sc') := by
    refine Lib.hid ?_
    rw [← hsc', swapsOf_as, swapsOf_bs, swapsOf_cells, swapsOf_kinds]
    exact ⟨rfl, rfl, rfl, rfl⟩
  have HK3 : Hid (((runL x0 sc').1 ++ (runL x0 sc').2).Perm (x0 ++ asOf sc')) := by
    refine Lib.hid (swaps_keep (by rw [← hsc']; exact swapsOf_kind) fun d hd => ?_)
    rw [K0.out.2.1]
    exact HC'.out d hd
  clear hsc' HC
  obtain ⟨A, hA⟩ : ∃ A, (runL x0 sc').1 = A := ⟨_, rfl⟩
  obtain ⟨S, hS⟩ : ∃ S, (runL x0 sc').2 = S := ⟨_, rfl⟩
  have HLA : Hid (A.length = n1) := by show _ = _; rw [← hA, runL_fst_length, HL'.out]
  have HLS : Hid (S.length = n0) := by show _ = _; rw [← hS, runL_snd_length, K0.out.2.1]
  rw [hA, hS] at HK3
  have HA := Lib.hid hA; have HS := Lib.hid hS
  clear hA hS
  have O0 := Lib.hid (Owns.nil w w.heap.size); have B0 := Lib.hid (Below.refl w.heap.size w)
  have hz0 : w.heap.size ≤ w.heap.size := Nat.le_refl _
  go_enter Try.func4, Try.ntmps4
  go_wp2_with fail
  refine (script_any w a1 a2 c1 c2 n0 n1 n2 x1 x2 sc HSC.out K1.out.2.1 K2.out.2.1 K1.out.1 K2.out.1 (by omega) p0 (by omega) (by omega)).mono ?_
  rintro e w1 ⟨s0, d0, s1, d1, s2, d2, s3, d3, rfl, ho, hb⟩
  have O1 := Lib.hid (O0.out.more hb ho hz0); have B1 := Lib.hid (Below.more B0.out hb hz0)
  have hz1 : w.heap.size ≤ w1.heap.size := B1.out.size
  clear ho hb O0 B0 hz0
  go_wp2
  go_loopw [29] (fun i wr => ∃ k : Nat, k ≤ n1 ∧ i = .int .i64 k ∧ Owns wr w.heap.size [⟨5, s0, n1, d0, U8 (mapTo (fun _ => 3#8) (kindsOf sc) k)⟩, ⟨3, s1, n1, d1, NI (cellsOf sc)⟩, ⟨28, s2, n1, d2, U (asOf sc)⟩, ⟨28, s3, n1, d3, U (bsOf sc)⟩] ∧ Below w.heap.size w wr) (fun i _ => n1 - (intOf i).toNat)
  case atStart => exact ⟨0, Nat.zero_le _, rfl, by rw [mapTo_zero]; exact O1.out, B1.out⟩
  case round =>
    clear O1 B1 hz1
    obtain ⟨k, hk, rfl, ho, hb⟩ := hrel
    have hsz := hb.size
    by_cases hlt : k < n1
    · have lk : k < (kindsOf sc).length := by simp [HL.out]; exact hlt
      have lm : k < (mapTo (fun _ => 3#8) (kindsOf sc) k).length := by simpa using lk
      obtain ⟨b0, rfl⟩ := ho.addr 0 rfl (k := k) (by simpa using lm)
      have f0 := ho.free 0 rfl k
      obtain ⟨u0, q0⟩ := ho.has 0 rfl (k := k) (by simpa using lm)
      obtain ⟨ho2, hb2⟩ := Owns.stored (p := []) ho rfl k (.int .u8 3)
      have HR : Hid (Owns (wr.setCell ⟨b0, k, none⟩ (.int .u8 3)) w.heap.size [⟨5, some ⟨b0, 0, none⟩, n1, d0, U8 (mapTo (fun _ => 3#8) (kindsOf sc) (k + 1))⟩, ⟨3, s1, n1, d1, NI (cellsOf sc)⟩, ⟨28, s2, n1, d2, U (asOf sc)⟩, ⟨28, s3, n1, d3, U (bsOf sc)⟩]) := by
        refine Lib.hid ?_
        rw [← mapTo_set lk, ← U8_set]
        exact ho2
      have HT := Lib.hid (hb.trans hb2)
      clear ho hb ho2 hb2
      go_wp2
      go_roundw
      case rel => exact ⟨k + 1, by omega, by go_num, HR.out, HT.out⟩
      case measure => simp [intOf]; omega
    · rw [mapTo_all (by simp [HL.out]; omega), HKA.out.1, HKA.out.2.1, HKA.out.2.2.1, HKA.out.2.2.2] at ho
      obtain ⟨w1, rfl⟩ : ∃ w1 : World, w1 = wr := ⟨_, rfl⟩
      have O1 := Lib.hid ho; have B1 := Lib.hid hb; have hz1 := hsz
      clear ho hb hsz
      go_wp2_with fail
      refine (copied_any a0 c0 n0 x0 w1 (K0.out.1.mono B1.out (Nat.le_refl _)) K0.out.2.1 K0.out.2.2.2 (by omega)).mono ?_
      rintro e w2 ⟨s4, d4, rfl, ho, hb⟩
      have O2 := Lib.hid (O1.out.more hb ho hz1); have B2 := Lib.hid (Below.more B1.out hb hz1)
      have hz2 : w.heap.size ≤ w2.heap.size := B2.out.size
      clear ho hb O1 B1 hz1
      go_wp2_with fail
      refine (run64_any w2 s4 s0 s1 s2 s3 d4 d0 d1 d2 d3 n0 n1 x0 sc' K0.out.2.1 HL'.out (O2.out.rdAt 4 rfl) (O2.out.rdAt 0 rfl) (O2.out.rdAt 1 rfl) (O2.out.rdAt 2 rfl) (O2.out.rdAt 3 rfl) (by omega) (by omega) HC'.out).mono ?_
      rintro e w3 ⟨s5, d5, s6, d6, rfl, ho, hb⟩
      have O3 := Lib.hid (O2.out.more hb ho hz2); have B3 := Lib.hid (Below.more B2.out hb hz2)
      have hz3 : w.heap.size ≤ w3.heap.size := B3.out.size
      clear ho hb O2 B2 hz2
      rw [HA.out, HS.out] at O3
      go_wp2_with fail
      refine (copied_any s5 d5 n1 A w3 (O3.out.rdAt 5 rfl) HLA.out (fun h => ((O3.out.cap 5 rfl).2.2 h).2) (by omega)).mono ?_
      rintro e w4 ⟨s7, d7, rfl, ho, hb⟩
      have O4 := Lib.hid (O3.out.more hb ho hz3); have B4 := Lib.hid (Below.more B3.out hb hz3)
      have hz4 : w.heap.size ≤ w4.heap.size := B4.out.size
      clear ho hb O3 B3 hz3
      have HN6 := Lib.hid (O4.out.cap 6 rfl).2.2
      go_wp2_with (at_builtin; refine wpList_append_at _ rfl _ _ 22 rfl 28 i0 (.int .u64 0) 8 Try.underlying22 hi hzz0 hzz1 hzz2 rfl (by decide) w.heap.size [_, _, _, _, _, _, _] [] _ rfl rfl O4.out s6 n0 d6 _ rfl (by rw [U_length, HLS.out]) HN6.out (O4.out.rdAt 6 rfl) U_one (by simp; omega) hz4 ?_)
      intro s8 d8 w5 ho5 hb5
      have O5 : Hid (Owns w5 w.heap.size ([⟨5, s0, n1, d0, U8 (kindsOf sc')⟩, ⟨3, s1, n1, d1, NI (cellsOf sc')⟩, ⟨28, s2, n1, d2, U (asOf sc')⟩, ⟨28, s3, n1, d3, U (bsOf sc')⟩, ⟨28, s4, n0, d4, U x0⟩, ⟨28, s5, n1, d5, U A⟩, ⟨28, s6, n0, d6, U S⟩, ⟨28, s8, n1 + n0, d8, U (A ++ S)⟩])) := by
        refine Lib.hid ?_
        rw [U_append]
        exact ho5
      have B5 := Lib.hid (B4.out.trans hb5)
      have hz5 : w.heap.size ≤ w5.heap.size := B5.out.size
      clear ho5 hb5 O4 B4 hz4 HN6
      go_wp2_with fail
      refine (ordered_any s8 d8 (n1 + n0) (A ++ S) w5 (O5.out.rdAt 7 rfl) (by rw [List.length_append, HLA.out, HLS.out]) (fun h => ((O5.out.cap 7 rfl).2.2 h).2) (by omega)).mono ?_
      rintro e w6 ⟨s9, d9, Y, rfl, hY, ho, hb⟩
      have HY := Lib.hid hY
      have O6 := Lib.hid (O5.out.more hb ho hz5); have B6 := Lib.hid (Below.more B5.out hb hz5)
      have hz6 : w.heap.size ≤ w6.heap.size := B6.out.size
      clear ho hb hY O5 B5 hz5
      go_wp2_with fail
      refine (copied_any a0 c0 n0 x0 w6 (K0.out.1.mono B6.out (Nat.le_refl _)) K0.out.2.1 K0.out.2.2.2 (by omega)).mono ?_
      rintro e w7 ⟨s10, d10, rfl, ho, hb⟩
      have O7 := Lib.hid (O6.out.more hb ho hz6); have B7 := Lib.hid (Below.more B6.out hb hz6)
      have hz7 : w.heap.size ≤ w7.heap.size := B7.out.size
      clear ho hb O6 B6 hz6
      have HN7 := Lib.hid (O7.out.cap 2 rfl).2.2
      go_wp2_with (at_builtin; refine wpList_append_at _ rfl _ _ 22 rfl 28 i0 (.int .u64 0) 8 Try.underlying22 hi hzz0 hzz1 hzz2 rfl (by decide) w.heap.size [_, _, _, _, _, _, _, _, _] [] _ rfl rfl O7.out s2 n1 d2 _ rfl (by rw [U_length, asOf_length, HL'.out]) HN7.out (O7.out.rdAt 2 rfl) U_one (by simp; omega) hz7 ?_)
      intro s11 d11 w8 ho8 hb8
      have O8 : Hid (Owns w8 w.heap.size [⟨28, s9, n1 + n0, d9, U Y⟩, ⟨28, s11, n0 + n1, d11, U (x0 ++ asOf sc')⟩]) := by
        refine Lib.hid ?_
        rw [U_append]
        exact ho8.drop (by repeat (first | exact List.nil_sublist _ | apply List.Sublist.cons_cons | apply List.Sublist.cons))
      have B8 := Lib.hid (B7.out.trans hb8)
      have hz8 : w.heap.size ≤ w8.heap.size := B8.out.size
      clear ho8 hb8 O7 B7 hz7 HN7
      go_wp2_with fail
      refine (ordered_any s11 d11 (n0 + n1) (x0 ++ asOf sc') w8 (O8.out.rdAt 1 rfl) (by rw [List.length_append, K0.out.2.1, asOf_length, HL'.out]) (fun h => ((O8.out.cap 1 rfl).2.2 h).2) (by omega)).mono ?_
      rintro e w9 ⟨s12, d12, Z, rfl, hZ, ho, hb⟩
      have HYZ : Hid (Y = Z) := sorted_unique (HY.out.1.trans (HK3.out.trans hZ.1.symm)) HY.out.2 hZ.2
      have HLZ : Hid (Z.length = n0 + n1) := by show _ = _; rw [hZ.1.length_eq, List.length_append, K0.out.2.1, asOf_length, HL'.out]
      have O9 := Lib.hid (O8.out.more hb ho hz8); have B9 := Lib.hid (Below.more B8.out hb hz8)
      have hz9 : w.heap.size ≤ w9.heap.size := B9.out.size
      clear ho hb hZ O8 B8 hz8
      rw [HYZ.out] at O9
      go_wp2_with fail
      refine (sameWords_any s9 s12 d9 d12 (n1 + n0) (n0 + n1) Z Z w9 (O9.out.rdAt 0 rfl) (O9.out.rdAt 2 rfl) (by rw [HLZ.out]; omega) HLZ.out (by omega) (by omega) true (by simp)).mono ?_
      rintro e w10 ⟨rfl, hb⟩
      have O10 := Lib.hid (O9.out.mono hb (Nat.le_refl _)); have B10 := Lib.hid (Below.more B9.out hb hz9)
      have hz10 : w.heap.size ≤ w10.heap.size := B10.out.size
      clear hb O9 B9 hz9
      go_wp2
      go_ret
      exact ⟨rfl, B10.out⟩
end Go.Proofs.Ytjjmjjbeecmmlab
