/-
  The walk of FnOnceTreeCut: the first calls of a list return what they return in the whole list, and run what is run first.
-/
import Derived.Test.YtjjmjjbeecmmladTreeMore
namespace Go.Proofs.Ytjjmjjbeecmmlad
set_option linter.unusedVariables false
set_option linter.unusedSimpArgs false
open Go.RowKit

theorem i64_and (y : Int) : ∃ u : Nat, u ≤ 65535 ∧ bits .and .i64 y 65535 = (u : Int) := by
  have h : (BitVec.ofInt 64 y &&& 65535#64).toNat ≤ 65535 := by rw [BitVec.toNat_and]; exact Nat.and_le_right
  refine ⟨_, h, ?_⟩
  show IntKind.i64.wrap ((BitVec.ofInt 64 y &&& BitVec.ofInt 64 65535).toNat : Int) = _
  rw [show BitVec.ofInt 64 65535 = 65535#64 from rfl]
  generalize (BitVec.ofInt 64 y &&& 65535#64).toNat = v at h
  rw [IntKind.wrap_i64]
  omega

set_option maxHeartbeats 3200000 in
set_option maxRecDepth 100000 in
theorem fnOnceTreeCut_any (w : World) (a0 : Option Addr) (n0 c0 : Nat) (x0 : List (BitVec 8)) (k0 : Came w a0 n0 c0 (U8 x0)) (a1 : Option Addr) (n1 c1 : Nat) (x1 : List (BitVec 64)) (k1 : Came w a1 n1 c1 (U x1)) (a2 : Option Addr) (n2 c2 : Nat) (x2 : List (BitVec 8)) (k2 : Came w a2 n2 c2 (U8 x2)) (y3 : Int) (b3 : -9223372036854775808 ≤ y3 ∧ y3 ≤ 9223372036854775807) (bd : n0 + n1 + n2 ≤ 1048576) :
    Calls Try.prog 7 #[.slice a0 n0 c0, .slice a1 n1 c1, .slice a2 n2 c2, .int .i64 y3] w fun e w' => e = .returned (.bool true) ∧ Below w.heap.size w w' := by
  have K0 := Lib.hid k0.u8; have K1 := Lib.hid k1.u64; have K2 := Lib.hid k2.u8
  clear k0 k1 k2
  obtain ⟨XS, hxs⟩ : ∃ XS, x1.take 12 = XS := ⟨_, rfl⟩
  obtain ⟨N, hN⟩ : ∃ N, XS.length = N := ⟨_, rfl⟩
  have bN : N ≤ 12 := by rw [← hN, ← hxs]; simp; omega
  obtain ⟨calls, hcalls⟩ : ∃ l, oCalls x2 N = l := ⟨_, rfl⟩
  obtain ⟨m, hm⟩ : ∃ m, calls.length = m := ⟨_, rfl⟩
  have bm : m ≤ 1048576 := by
    rw [← hm, ← hcalls]
    unfold oCalls
    split
    · simp
    · simp [K2.out.2.1]; omega
  have HXS := Lib.hid hxs; have HN := Lib.hid hN; have HC := Lib.hid hcalls; have HM := Lib.hid hm
  have HCN : Hid (∀ i ∈ calls, i < N) := by refine Lib.hid ?_; rw [← hcalls]; exact oCalls_lt
  clear hxs hN hcalls hm
  obtain ⟨u, hu, hand⟩ := i64_and y3
  clear b3
  obtain ⟨j, hj⟩ : ∃ j, u % (m + 1) = j := ⟨_, rfl⟩
  have hje : ((u : Int) % ((m : Int) + 1)) = (j : Int) := by rw [← hj]; simp
  have htm : ((u : Int).tmod ((m : Int) + 1)) = (j : Int) := by rw [Int.tmod_eq_emod_of_nonneg (by omega)]; exact hje
  have bj : j ≤ m := by have := Nat.mod_lt u (show 0 < m + 1 by omega); omega
  clear hj
  obtain ⟨RA, hRA⟩ : ∃ R, calls.map (val (parOf x0) fun i => XS.getD i 0) = R := ⟨_, rfl⟩
  obtain ⟨S, hS⟩ : ∃ S, allRun (parOf x0) N calls = S := ⟨_, rfl⟩
  obtain ⟨T, hT⟩ : ∃ T, allRun (parOf x0) N (calls.take j) = T := ⟨_, rfl⟩
  have HLR : Hid (RA.length = m) := by show _ = _; rw [← hRA, List.length_map, HM.out]
  have HRJ : Hid ((calls.take j).map (val (parOf x0) fun i => XS.getD i 0) = RA.take j) := by show _ = _; rw [← hRA, List.map_take]
  have HF : Hid (Fine N S) := by refine Lib.hid ?_; rw [← hS]; exact allRun_fine (fun i p hp => parOf_less p hp) HCN.out
  have HC2 : Hid (∀ i ∈ calls.take j, i < N) := Lib.hid fun i hi => HCN.out i (List.mem_of_mem_take hi)
  have HG : Hid (Fine N T) := by refine Lib.hid ?_; rw [← hT]; exact allRun_fine (fun i p hp => parOf_less p hp) HC2.out
  obtain ⟨tl, htl⟩ : ∃ t, S.1 = T.1 ++ t := by rw [← hS, ← hT]; exact allRun_cut
  obtain ⟨so, hso⟩ : ∃ so, S.1.length = so := ⟨_, rfl⟩
  obtain ⟨to, hto⟩ : ∃ so, T.1.length = so := ⟨_, rfl⟩
  have bso : so ≤ 12 := by have := nodup_le HF.out.1 HF.out.2.1; omega
  have bto : to ≤ so := by rw [htl, List.length_append] at hso; omega
  have HTK : Hid ((NI S.1).take to = NI T.1) := by show _ = _; rw [htl, NI, List.map_append, List.take_left' (by simp [hto])]; rfl
  have HRA := Lib.hid hRA; have HS := Lib.hid hS; have HT := Lib.hid hT; have HSO := Lib.hid hso; have HTO := Lib.hid hto
  clear hRA hS hT hso hto htl
  have t1 : ((m : Int) != (m : Int)) = false := by simp
  have t2 : ((j : Int) != (j : Int)) = false := by simp
  have t3 : ((N : Int) != (N : Int)) = false := by simp
  go_enter Try.func7, Try.ntmps7
  have O0 := Lib.hid (Owns.nil w w.heap.size); have B0 := Lib.hid (Below.refl w.heap.size w)
  have hz0 : w.heap.size ≤ w.heap.size := Nat.le_refl _
  go_wp2_with fail
  refine (oNumbers_any w a1 n1 c1 N x1 XS K1.out.1 K1.out.2.1 K1.out.2.2.1 K1.out.2.2.2 (by omega) HXS.out HN.out).mono ?_
  rintro e w1 ⟨s0, d0, rfl, ho, hb⟩
  have O1 := Lib.hid (O0.out.more hb ho hz0); have B1 := Lib.hid (Below.more B0.out hb hz0)
  have hz1 : w.heap.size ≤ w1.heap.size := B1.out.size
  clear ho hb O0 B0 hz0
  go_wp2_with fail
  refine (oParents_any w1 a0 n0 c0 N x0 (K0.out.1.mono B1.out (Nat.le_refl _)) K0.out.2.1 (by omega) (by omega)).mono ?_
  rintro e w2 ⟨pa, pc, R, rfl, hin, ho, hb⟩
  have O2 := Lib.hid (Laid.of O1.out ⟨R, hin, ho⟩ hb hz1); have B2 := Lib.hid (Below.more B1.out hb hz1)
  have hz2 : w.heap.size ≤ w2.heap.size := B2.out.size
  clear hin ho hb O1 B1 hz1
  go_wp2_with fail
  refine (oCalls_any w2 a2 n2 c2 N m x2 calls (K2.out.1.mono B2.out (Nat.le_refl _)) K2.out.2.1 (by omega) HC.out HM.out (by omega)).mono ?_
  rintro e w3 ⟨s1, d1, rfl, ho, hb⟩
  have O3 := Lib.hid (O2.out.more hb ho hz2); have B3 := Lib.hid (Below.more B2.out hb hz2)
  have hz3 : w.heap.size ≤ w3.heap.size := B3.out.size
  clear ho hb O2 B2 hz2
  go_wp2_with fail
  refine (tree_laid O3.out 0 1 rfl rfl (by omega) (by omega) HCN.out HRA.out HS.out).mono ?_
  rintro e w4 ⟨r0, h0, r1, h1, r2, h2, rfl, ho, hb⟩
  have O4 := Lib.hid (O3.out.more hb ho hz3); have B4 := Lib.hid (Below.more B3.out hb hz3)
  have hz4 : w.heap.size ≤ w4.heap.size := B4.out.size
  clear ho hb O3 B3 hz3
  rw [HSO.out] at O4 ⊢
  have cp := O4.out.owns.cap 1 rfl
  obtain ⟨D, hD, hDn, hDr⟩ := slice_to Try.underlying28 (fun _ => by kernel_rfl) s1 m d1 j (by omega) (fun h => (cp.2.2 h).2)
  have RD := Lib.hid (hDr w4 _ (O4.out.rdAt 1 rfl) (by simp [HM.out]; omega))
  have e0 : (NI calls).take j = NI (calls.take j) := by unfold NI; rw [List.map_take]
  rw [show ((⟨3, s1, m, d1, NI calls⟩ : Row).xs) = NI calls from rfl, e0] at RD
  clear hDr hDn cp e0
  go_wp2_with fail
  refine (tree_read O4.out 0 (a2 := D) (c2 := d1) rfl RD.out (by simp [HM.out]; omega) (by omega) (by omega) HC2.out HRJ.out HT.out).mono ?_
  rintro e w5 ⟨r3, h3, r4, h4, r5, h5, rfl, ho, hb⟩
  have O5 := Lib.hid (O4.out.more hb ho hz4); have B5 := Lib.hid (Below.more B4.out hb hz4)
  have hz5 : w.heap.size ≤ w5.heap.size := B5.out.size
  clear ho hb O4 B4 hz4
  rw [HTO.out] at O5 ⊢
  have P5 := Lib.hid O5.out.owns
  clear O5
  have O5 := P5
  clear P5
  have cp := O5.out.cap 2 rfl
  have cq := O5.out.cap 3 rfl
  obtain ⟨A, hA, hAn, hAr⟩ := slice_to Try.underlying23 (fun _ => by kernel_rfl) r0 m h0 j (by omega) (fun h => (cp.2.2 h).2)
  obtain ⟨E, hE, hEn, hEr⟩ := slice_to Try.underlying28 (fun _ => by kernel_rfl) r1 so h1 to (by omega) (fun h => (cq.2.2 h).2)
  have e1 : (U RA).take j = U (RA.take j) := by unfold U; rw [List.map_take]
  have HA : Hid (∀ w' : World, Rd w' r0 (U RA) → Rd w' A (U (RA.take j))) := by refine Lib.hid fun w' h => ?_; rw [← e1]; exact hAr w' _ h (by simp [HLR.out]; omega)
  have HE : Hid (∀ w' : World, Rd w' r1 (NI S.1) → Rd w' E (NI T.1)) := by refine Lib.hid fun w' h => ?_; rw [← HTK.out]; exact hEr w' _ h (by simp [HSO.out]; omega)
  clear e1 hAr hEr hAn hEn cp cq
  have HLJ : Hid ((RA.take j).length = j) := by show _ = _; rw [List.length_take, HLR.out]; omega
  go_wp2_with fail
  refine (sameWords_any A r3 h0 h3 j j (RA.take j) (RA.take j) w5 (HA.out w5 (O5.out.rdAt 2 rfl)) (O5.out.rdAt 5 rfl) HLJ.out HLJ.out (by omega) (by omega) true (by simp)).mono ?_
  rintro e w6 ⟨rfl, hb⟩
  have O6 := Lib.hid (O5.out.mono hb (Nat.le_refl _)); have B6 := Lib.hid (Below.more B5.out hb hz5)
  have hz6 : w.heap.size ≤ w6.heap.size := B6.out.size
  clear hb O5 B5 hz5
  go_wp2_with fail
  refine (sameInts_any E r4 h1 h4 to to T.1 T.1 w6 (HE.out w6 (O6.out.rdAt 3 rfl)) (O6.out.rdAt 6 rfl) HTO.out HTO.out (by omega) (by omega) true (by simp)).mono ?_
  rintro e w7 ⟨rfl, hb⟩
  have O7 := Lib.hid (O6.out.mono hb (Nat.le_refl _)); have B7 := Lib.hid (Below.more B6.out hb hz6)
  have hz7 : w.heap.size ≤ w7.heap.size := B7.out.size
  clear hb O6 B6 hz6
  go_wp2
  go_ret
  exact ⟨rfl, B7.out⟩
end Go.Proofs.Ytjjmjjbeecmmlad
