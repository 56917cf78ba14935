/-
  The walk of FnOnceTreeAgain: the same calls once more run nothing and return the same.
-/
import Derived.Test.YtjjmjjbeecmmladTreeMore
namespace Go.Proofs.Ytjjmjjbeecmmlad
set_option linter.unusedVariables false
set_option linter.unusedSimpArgs false
open Go.RowKit

set_option maxHeartbeats 3200000 in
set_option maxRecDepth 100000 in
theorem fnOnceTreeAgain_any (w : World) (a0 : Option Addr) (n0 c0 : Nat) (x0 : List (BitVec 8)) (k0 : Came w a0 n0 c0 (U8 x0)) (a1 : Option Addr) (n1 c1 : Nat) (x1 : List (BitVec 64)) (k1 : Came w a1 n1 c1 (U x1)) (a2 : Option Addr) (n2 c2 : Nat) (x2 : List (BitVec 8)) (k2 : Came w a2 n2 c2 (U8 x2)) (bd : n0 + n1 + n2 ≤ 1048576) :
    Calls Try.prog 6 #[.slice a0 n0 c0, .slice a1 n1 c1, .slice a2 n2 c2] w fun e w' => e = .returned (.bool true) ∧ Below w.heap.size w w' := by
  have K0 := Lib.hid k0.u8; have K1 := Lib.hid k1.u64; have K2 := Lib.hid k2.u8
  clear k0 k1 k2
  obtain ⟨XS, hxs⟩ : ∃ XS, x1.take 12 = XS := ⟨_, rfl⟩
  obtain ⟨N, hN⟩ : ∃ N, XS.length = N := ⟨_, rfl⟩
  have bN : N ≤ 12 := by rw [← hN, ← hxs]; simp; omega
  obtain ⟨calls, hcalls⟩ : ∃ l, oCalls x2 N = l := ⟨_, rfl⟩
  obtain ⟨m, hm⟩ : ∃ m, calls.length = m := ⟨_, rfl⟩
  have bm : m ≤ 1048576 := by
    rw [← hm, ← hcalls]
    unfold oCalls
    split
    · simp
    · simp [K2.out.2.1]; omega
  have HXS := Lib.hid hxs; have HN := Lib.hid hN; have HC := Lib.hid hcalls; have HM := Lib.hid hm
  have HCN : Hid (∀ i ∈ calls, i < N) := by refine Lib.hid ?_; rw [← hcalls]; exact oCalls_lt
  clear hxs hN hcalls hm
  obtain ⟨RA, hRA⟩ : ∃ R, calls.map (val (parOf x0) fun i => XS.getD i 0) = R := ⟨_, rfl⟩
  obtain ⟨S, hS⟩ : ∃ S, allRun (parOf x0) N calls = S := ⟨_, rfl⟩
  have HLR : Hid (RA.length = m) := by show _ = _; rw [← hRA, List.length_map, HM.out]
  have HRR : Hid ((calls ++ calls).map (val (parOf x0) fun i => XS.getD i 0) = RA ++ RA) := by show _ = _; rw [List.map_append, hRA]
  have HSS : Hid (allRun (parOf x0) N (calls ++ calls) = S) := by show _ = _; rw [allRun_again HCN.out, hS]
  have HF : Hid (Fine N S) := by refine Lib.hid ?_; rw [← hS]; exact allRun_fine (fun i p hp => parOf_less p hp) HCN.out
  have HC2 : Hid (∀ i ∈ calls ++ calls, i < N) := by
    refine Lib.hid fun i hi => ?_
    rcases List.mem_append.1 hi with h | h
    · exact HCN.out i h
    · exact HCN.out i h
  obtain ⟨so, hso⟩ : ∃ so, S.1.length = so := ⟨_, rfl⟩
  have bso : so ≤ 12 := by have := nodup_le HF.out.1 HF.out.2.1; omega
  have HRA := Lib.hid hRA; have HS := Lib.hid hS; have HSO := Lib.hid hso
  clear hRA hS hso
  have t1 : ((m : Int) != (m : Int)) = false := by simp
  have t2 : (((m + m : Nat) : Int) != (2 : Int) * (m : Int)) = false := by simp; omega
  have t3 : ((N : Int) != (N : Int)) = false := by simp
  go_enter Try.func6, Try.ntmps6
  have O0 := Lib.hid (Owns.nil w w.heap.size); have B0 := Lib.hid (Below.refl w.heap.size w)
  have hz0 : w.heap.size ≤ w.heap.size := Nat.le_refl _
  go_wp2_with fail
  refine (oNumbers_any w a1 n1 c1 N x1 XS K1.out.1 K1.out.2.1 K1.out.2.2.1 K1.out.2.2.2 (by omega) HXS.out HN.out).mono ?_
  rintro e w1 ⟨s0, d0, rfl, ho, hb⟩
  have O1 := Lib.hid (O0.out.more hb ho hz0); have B1 := Lib.hid (Below.more B0.out hb hz0)
  have hz1 : w.heap.size ≤ w1.heap.size := B1.out.size
  clear ho hb O0 B0 hz0
  go_wp2_with fail
  refine (oParents_any w1 a0 n0 c0 N x0 (K0.out.1.mono B1.out (Nat.le_refl _)) K0.out.2.1 (by omega) (by omega)).mono ?_
  rintro e w2 ⟨pa, pc, R, rfl, hin, ho, hb⟩
  have O2 := Lib.hid (Laid.of O1.out ⟨R, hin, ho⟩ hb hz1); have B2 := Lib.hid (Below.more B1.out hb hz1)
  have hz2 : w.heap.size ≤ w2.heap.size := B2.out.size
  clear hin ho hb O1 B1 hz1
  go_wp2_with fail
  refine (oCalls_any w2 a2 n2 c2 N m x2 calls (K2.out.1.mono B2.out (Nat.le_refl _)) K2.out.2.1 (by omega) HC.out HM.out (by omega)).mono ?_
  rintro e w3 ⟨s1, d1, rfl, ho, hb⟩
  have O3 := Lib.hid (O2.out.more hb ho hz2); have B3 := Lib.hid (Below.more B2.out hb hz2)
  have hz3 : w.heap.size ≤ w3.heap.size := B3.out.size
  clear ho hb O2 B2 hz2
  go_wp2_with fail
  refine (tree_laid O3.out 0 1 rfl rfl (by omega) (by omega) HCN.out HRA.out HS.out).mono ?_
  rintro e w4 ⟨r0, h0, r1, h1, r2, h2, rfl, ho, hb⟩
  have O4 := Lib.hid (O3.out.more hb ho hz3); have B4 := Lib.hid (Below.more B3.out hb hz3)
  have hz4 : w.heap.size ≤ w4.heap.size := B4.out.size
  clear ho hb O3 B3 hz3
  rw [HSO.out] at O4 ⊢
  have L0 := Lib.hid (O4.out.made hz4 3 #[] (by simp))
  have M0 := Lib.hid (B4.out.alloc hz4 (.cells #[] 3))
  have R0 := Lib.hid (L0.out.rdAt 1 rfl)
  have Z0 := Lib.hid (fun h => (L0.out.owns.cap 1 rfl).2.2 h)
  go_wp2_with (at_builtin; refine laid_append rfl (.tmp 37) (.tmp 38) rfl rfl rfl (n := 0) (rc := 0) (xs := []) (news := calls) L0.out HM.out Z0.out R0.out (by omega) (by simp; omega) ?_)
  intro a3 g3 w5 ho5 hb5
  have L1 := Lib.hid ho5; have M1 := Lib.hid (M0.out.trans hb5)
  have hz5 : w.heap.size ≤ w5.heap.size := M1.out.size
  have R1 := Lib.hid (L1.out.rdAt 1 rfl)
  have Z1 := Lib.hid (fun h => (L1.out.owns.cap 1 rfl).2.2 h)
  clear ho5 hb5 L0 M0 R0 Z0 O4 B4
  go_wp2_with (at_builtin; refine laid_append rfl (.tmp 39) (.tmp 40) rfl rfl rfl (X := [_, _, _, _, _]) (xs := calls) (news := calls) L1.out HM.out Z1.out R1.out (by omega) hz5 ?_)
  intro a4 g4 w6 ho6 hb6
  have O6 := Lib.hid ho6; have B6 := Lib.hid (M1.out.trans hb6)
  have hz6 : w.heap.size ≤ w6.heap.size := B6.out.size
  clear ho6 hb6 L1 M1 R1 Z1
  go_wp2_with fail
  refine (tree_laid O6.out 0 5 rfl rfl (by omega) (by omega) HC2.out HRR.out HSS.out).mono ?_
  rintro e w7 ⟨r3, h3, r4, h4, r5, h5, rfl, ho, hb⟩
  have O7 := Lib.hid (O6.out.more hb ho hz6); have B7 := Lib.hid (Below.more B6.out hb hz6)
  have hz7 : w.heap.size ≤ w7.heap.size := B7.out.size
  clear ho hb O6 B6 hz6
  rw [HSO.out] at O7 ⊢
  have P7 := Lib.hid O7.out.owns
  clear O7
  have O7 := P7
  clear P7
  have cp := O7.out.cap 6 rfl
  obtain ⟨A, hA, hAn, hAr⟩ := slice_to Try.underlying23 (fun _ => by kernel_rfl) r3 (m + m) h3 m (by omega) (fun h => (cp.2.2 h).2)
  obtain ⟨E, hE, hEr⟩ := slice_from Try.underlying23 (fun _ => by kernel_rfl) r3 (m + m) h3 m (by omega) (by omega)
  have e1 : (U (RA ++ RA)).take m = U RA := by unfold U; rw [List.map_append, List.take_left' (by simp [HLR.out])]
  have e2 : (U (RA ++ RA)).drop m = U RA := by unfold U; rw [List.map_append, List.drop_left' (by simp [HLR.out])]
  have HA : Hid (∀ w' : World, Rd w' r3 (U (RA ++ RA)) → Rd w' A (U RA)) := by refine Lib.hid fun w' h => ?_; rw [← e1]; exact hAr w' _ h (by simp [HLR.out])
  have HE : Hid (∀ w' : World, Rd w' r3 (U (RA ++ RA)) → Rd w' E (U RA)) := by refine Lib.hid fun w' h => ?_; rw [← e2]; exact hEr w' _ h (by simp [HLR.out])
  rw [show m + m - m = m by omega] at hE
  clear e1 e2 hAr hEr hAn cp
  go_wp2_with fail
  refine (sameWords_any A r0 h3 h0 m m RA RA w7 (HA.out w7 (O7.out.rdAt 6 rfl)) (O7.out.rdAt 2 rfl) HLR.out HLR.out (by omega) (by omega) true (by simp)).mono ?_
  rintro e w8 ⟨rfl, hb⟩
  have O8 := Lib.hid (O7.out.mono hb (Nat.le_refl _)); have B8 := Lib.hid (Below.more B7.out hb hz7)
  have hz8 : w.heap.size ≤ w8.heap.size := B8.out.size
  clear hb O7 B7 hz7
  go_wp2_with fail
  refine (sameWords_any E r0 (h3 - m) h0 m m RA RA w8 (HE.out w8 (O8.out.rdAt 6 rfl)) (O8.out.rdAt 2 rfl) HLR.out HLR.out (by omega) (by omega) true (by simp)).mono ?_
  rintro e w9 ⟨rfl, hb⟩
  have O9 := Lib.hid (O8.out.mono hb (Nat.le_refl _)); have B9 := Lib.hid (Below.more B8.out hb hz8)
  have hz9 : w.heap.size ≤ w9.heap.size := B9.out.size
  clear hb O8 B8 hz8
  go_wp2_with fail
  refine (sameInts_any r1 r4 h1 h4 so so S.1 S.1 w9 (O9.out.rdAt 3 rfl) (O9.out.rdAt 7 rfl) HSO.out HSO.out (by omega) (by omega) true (by simp)).mono ?_
  rintro e w10 ⟨rfl, hb⟩
  have O10 := Lib.hid (O9.out.mono hb (Nat.le_refl _)); have B10 := Lib.hid (Below.more B9.out hb hz9)
  have hz10 : w.heap.size ≤ w10.heap.size := B10.out.size
  clear hb O9 B9 hz9
  go_wp2_with fail
  refine (sameWords_any r2 r5 h2 h5 N N S.2 S.2 w10 (O10.out.rdAt 4 rfl) (O10.out.rdAt 8 rfl) HF.out.2.2 HF.out.2.2 (by omega) (by omega) true (by simp)).mono ?_
  rintro e w11 ⟨rfl, hb⟩
  have O11 := Lib.hid (O10.out.mono hb (Nat.le_refl _)); have B11 := Lib.hid (Below.more B10.out hb hz10)
  have hz11 : w.heap.size ≤ w11.heap.size := B11.out.size
  clear hb O10 B10 hz10
  go_wp2
  go_ret
  exact ⟨rfl, B11.out⟩
end Go.Proofs.Ytjjmjjbeecmmlad
