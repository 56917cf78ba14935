/-
  The walk of FnOnceTreeOrder: the nodes run in the order of a walk, each once.
-/
import Derived.Test.YtjjmjjbeecmmladTreeWalk
namespace Go.Proofs.Ytjjmjjbeecmmlad
set_option linter.unusedVariables false
set_option linter.unusedSimpArgs false
open Go.RowKit

set_option maxHeartbeats 1600000 in
set_option maxRecDepth 100000 in
theorem fnOnceTreeOrder_any (w : World) (a0 : Option Addr) (n0 c0 : Nat) (x0 : List (BitVec 8)) (k0 : Came w a0 n0 c0 (U8 x0)) (a1 : Option Addr) (n1 c1 : Nat) (x1 : List (BitVec 64)) (k1 : Came w a1 n1 c1 (U x1)) (a2 : Option Addr) (n2 c2 : Nat) (x2 : List (BitVec 8)) (k2 : Came w a2 n2 c2 (U8 x2)) (bd : n0 + n1 + n2 ≤ 1048576) :
    Calls Try.prog 8 #[.slice a0 n0 c0, .slice a1 n1 c1, .slice a2 n2 c2] w fun e w' => e = .returned (.bool true) ∧ Below w.heap.size w w' := by
  have K0 := Lib.hid k0.u8; have K1 := Lib.hid k1.u64; have K2 := Lib.hid k2.u8
  clear k0 k1 k2
  obtain ⟨XS, hxs⟩ : ∃ XS, x1.take 12 = XS := ⟨_, rfl⟩
  obtain ⟨N, hN⟩ : ∃ N, XS.length = N := ⟨_, rfl⟩
  have bN : N ≤ 12 := by rw [← hN, ← hxs]; simp; omega
  obtain ⟨calls, hcalls⟩ : ∃ l, oCalls x2 N = l := ⟨_, rfl⟩
  obtain ⟨m, hm⟩ : ∃ m, calls.length = m := ⟨_, rfl⟩
  have bm : m ≤ 1048576 := by
    rw [← hm, ← hcalls]
    unfold oCalls
    split
    · simp
    · simp [K2.out.2.1]; omega
  have HXS := Lib.hid hxs; have HN := Lib.hid hN; have HC := Lib.hid hcalls; have HM := Lib.hid hm
  have HCN : Hid (∀ i ∈ calls, i < N) := by refine Lib.hid ?_; rw [← hcalls]; exact oCalls_lt
  clear hxs hN hcalls hm
  obtain ⟨RA, hRA⟩ : ∃ R, calls.map (val (parOf x0) fun i => XS.getD i 0) = R := ⟨_, rfl⟩
  obtain ⟨S, hS⟩ : ∃ S, allRun (parOf x0) N calls = S := ⟨_, rfl⟩
  obtain ⟨ST, hST⟩ : ∃ ST, (fun k => allRun (parOf x0) N (calls.take k)) = ST := ⟨_, rfl⟩
  have HLE : Hid (∀ i, ∀ p ∈ parOf x0 i, p < i) := Lib.hid fun i p hp => parOf_less p hp
  have HF : Hid (Fine N S) := by refine Lib.hid ?_; rw [← hS]; exact allRun_fine HLE.out HCN.out
  have HFK : Hid (∀ k, Fine N (ST k)) := by refine Lib.hid fun k => ?_; rw [← hST]; exact allRun_fine HLE.out fun i hi => HCN.out i (List.mem_of_mem_take hi)
  have HS0 : Hid ((ST 0).1 = []) := by show _ = _; rw [← hST]; rfl
  have HSM : Hid (ST m = S) := by show _ = _; rw [← hST, ← hS]; simp only; rw [List.take_of_length_le (by rw [HM.out]; omega)]
  have HSK : Hid (∀ k (h : k < calls.length), ST (k + 1) = runF (parOf x0) N calls[k] (ST k)) := by
    refine Lib.hid fun k h => ?_
    rw [← hST]
    simp only [allRun]
    rw [List.take_succ_eq_append_getElem h, List.foldl_append]
    rfl
  have HCT : Hid (∀ x (h : x < S.2.length), S.2[x] = if x ∈ S.1 then 1 else 0) := by
    refine Lib.hid fun x h => ?_
    have hx : x < N := by rw [HF.out.2.2] at h; exact h
    have e1 := allRun_count (ps := parOf x0) HLE.out (calls := calls) hx
    rw [hS] at e1
    rw [← e1]
    simp [h]
  obtain ⟨so, hso⟩ : ∃ so, S.1.length = so := ⟨_, rfl⟩
  have bso : so ≤ 12 := by have := nodup_le HF.out.1 HF.out.2.1; omega
  have HRA := Lib.hid hRA; have HS := Lib.hid hS; have HSO := Lib.hid hso
  clear hRA hS hso hST
  have t1 : ((N : Int) != (N : Int)) = false := by simp
  go_enter Try.func8, Try.ntmps8
  have O0 := Lib.hid (Owns.nil w w.heap.size); have B0 := Lib.hid (Below.refl w.heap.size w)
  have hz0 : w.heap.size ≤ w.heap.size := Nat.le_refl _
  go_wp2_with fail
  refine (oNumbers_any w a1 n1 c1 N x1 XS K1.out.1 K1.out.2.1 K1.out.2.2.1 K1.out.2.2.2 (by omega) HXS.out HN.out).mono ?_
  rintro e w1 ⟨s0, d0, rfl, ho, hb⟩
  have O1 := Lib.hid (O0.out.more hb ho hz0); have B1 := Lib.hid (Below.more B0.out hb hz0)
  have hz1 : w.heap.size ≤ w1.heap.size := B1.out.size
  clear ho hb O0 B0 hz0
  go_wp2_with fail
  refine (oParents_any w1 a0 n0 c0 N x0 (K0.out.1.mono B1.out (Nat.le_refl _)) K0.out.2.1 (by omega) (by omega)).mono ?_
  rintro e w2 ⟨pa, pc, R, rfl, hin, ho, hb⟩
  have O2 := Lib.hid (Laid.of O1.out ⟨R, hin, ho⟩ hb hz1); have B2 := Lib.hid (Below.more B1.out hb hz1)
  have hz2 : w.heap.size ≤ w2.heap.size := B2.out.size
  clear hin ho hb O1 B1 hz1
  go_wp2_with fail
  refine (oCalls_any w2 a2 n2 c2 N m x2 calls (K2.out.1.mono B2.out (Nat.le_refl _)) K2.out.2.1 (by omega) HC.out HM.out (by omega)).mono ?_
  rintro e w3 ⟨s1, d1, rfl, ho, hb⟩
  have O3 := Lib.hid (O2.out.more hb ho hz2); have B3 := Lib.hid (Below.more B2.out hb hz2)
  have hz3 : w.heap.size ≤ w3.heap.size := B3.out.size
  clear ho hb O2 B2 hz2
  go_wp2_with fail
  refine (tree_laid O3.out 0 1 rfl rfl (by omega) (by omega) HCN.out HRA.out HS.out).mono ?_
  rintro e w4 ⟨r0, h0, r1, h1, r2, h2, rfl, ho, hb⟩
  have O4 := Lib.hid (O3.out.more hb ho hz3); have B4 := Lib.hid (Below.more B3.out hb hz3)
  have hz4 : w.heap.size ≤ w4.heap.size := B4.out.size
  clear ho hb O3 B3 hz3
  rw [HSO.out] at O4 ⊢
  obtain ⟨R, hin, hown⟩ := O4.out
  obtain ⟨Y, hYe⟩ : ∃ Y, ((⟨28, pa, N, pc, R.map Row.val⟩ :: R) ++ [⟨25, s0, N, d0, U XS⟩, ⟨3, s1, m, d1, NI calls⟩, ⟨25, r0, m, h0, U RA⟩, ⟨3, r1, so, h1, NI S.1⟩, ⟨25, r2, N, h2, U S.2⟩] : List Row) = Y := ⟨_, rfl⟩
  have HHY : Hid (Holds w.heap.size N (parOf x0) pa Y) := by refine Lib.hid ?_; rw [← hYe]; exact holds_inner hin hown
  have HIC : Hid ((⟨3, s1, m, d1, NI calls⟩ : Row) ∈ Y) := by refine Lib.hid ?_; rw [← hYe]; simp
  have HIO : Hid ((⟨3, r1, so, h1, NI S.1⟩ : Row) ∈ Y) := by refine Lib.hid ?_; rw [← hYe]; simp
  have HIU : Hid ((⟨25, r2, N, h2, U S.2⟩ : Row) ∈ Y) := by refine Lib.hid ?_; rw [← hYe]; simp
  have L0 : Hid (Owns (w4.alloc (.cells #[] 3)) w.heap.size (Y ++ [⟨3, some ⟨w4.heap.size, 0, none⟩, 0, 0, []⟩])) := by
    refine Lib.hid ?_
    rw [← hYe]
    exact hown.made hz4 3 #[] (by simp)
  have M0 := Lib.hid (B4.out.alloc hz4 (.cells #[] 3))
  clear O4 B4 hin hown hYe
  go_wp2
  go_loopw [39, 13] (fun i v wr => ∃ (k : Nat) (e0 : Option Addr) (g0 : Nat), k ≤ m ∧ i = .int .i64 k ∧ v = .slice e0 (ST k).1.length g0 ∧ Owns wr w.heap.size (Y ++ [⟨3, e0, (ST k).1.length, g0, NI (ST k).1⟩]) ∧ Below w.heap.size w wr) (fun i _ _ => m - (intOf i).toNat)
  case atStart => exact ⟨0, _, _, Nat.zero_le _, rfl, by rw [HS0.out]; rfl, by rw [HS0.out]; exact L0.out, M0.out⟩
  case round =>
    clear L0 M0 hz4
    obtain ⟨k, e0, g0, hk, rfl, rfl, ho, hb⟩ := hrel
    have hsz := hb.size
    by_cases hlt : k < m
    · have lc : k < calls.length := by rw [HM.out]; exact hlt
      obtain ⟨b0, o0, hs1, q0⟩ := at_int (ho.rd (List.mem_append_left _ HIC.out)).1 (Below.refl _ _) (Nat.le_refl _) lc
      simp only at hs1
      subst hs1
      have hi := HCN.out _ (List.getElem_mem lc)
      have HS1 := Lib.hid (HSK.out k lc)
      obtain ⟨i, hie⟩ : ∃ i, calls[k] = i := ⟨_, rfl⟩
      rw [hie] at q0 hi HS1
      have HCALL := Lib.hid (oWalk_any w.heap.size N x0 pa pc Y HHY.out (by omega) N i hi hi wr (ST k) e0 g0 (HFK.out k) ho hsz)
      rw [← HS1.out] at HCALL
      obtain ⟨nk, hnk⟩ : ∃ n, (ST k).1.length = n := ⟨_, rfl⟩
      rw [hnk] at HCALL ⊢
      have HB := Lib.hid hb
      clear ho hb hie hnk
      go_wp2_with fail
      refine HCALL.out.mono ?_
      rintro e w5 ⟨e1, g1, rfl, ho1, hb1⟩
      have HO1 := Lib.hid ho1; have HB1 := Lib.hid (HB.out.trans hb1)
      clear ho1 hb1 HCALL HB
      go_wp2
      go_roundw
      case rel => exact ⟨k + 1, e1, g1, by omega, by go_num, rfl, HO1.out, HB1.out⟩
      case measure => simp [intOf]; omega
    · have hkm : m = k := by omega
      subst hkm
      rw [HSM.out, HSO.out] at ho ⊢
      obtain ⟨w5, rfl⟩ : ∃ w5 : World, w5 = wr := ⟨_, rfl⟩
      have O5 := Lib.hid ho; have B5 := Lib.hid hb; have hz5 := hsz
      clear ho hb hsz
      have R5 := Lib.hid (O5.out.rd (r := ⟨3, e0, so, g0, NI S.1⟩) (by simp)).1
      go_wp2_with fail
      refine (sameInts_any r1 e0 h1 g0 so so S.1 S.1 w5 (O5.out.rd (List.mem_append_left _ HIO.out)).1 R5.out HSO.out HSO.out (by omega) (by omega) true (by simp)).mono ?_
      rintro e w6 ⟨rfl, hb⟩
      have O6 := Lib.hid (O5.out.mono hb (Nat.le_refl _)); have B6 := Lib.hid (Below.more B5.out hb hz5)
      have hz6 : w.heap.size ≤ w6.heap.size := B6.out.size
      clear hb O5 B5 hz5
      clear R5
      have R6 := Lib.hid (O6.out.rd (r := ⟨3, e0, so, g0, NI S.1⟩) (by simp)).1
      have U6 := Lib.hid (O6.out.rd (List.mem_append_left _ HIU.out)).1
      go_wp2
      go_loopw [61] (fun i wr => ∃ k : Nat, k ≤ N ∧ i = .int .i64 k ∧ wr = w6) (fun i _ => N - (intOf i).toNat)
      case atStart => exact ⟨0, Nat.zero_le _, rfl, rfl⟩
      case round =>
        obtain ⟨k, hk, rfl, rfl⟩ := hrel
        by_cases hlt : k < N
        · have lu : k < S.2.length := by rw [HF.out.2.2]; exact hlt
          obtain ⟨b0, o0, hs1, q0⟩ := at_u64 U6.out (Below.refl _ _) (Nat.le_refl _) lu
          subst hs1
          rw [HCT.out k lu] at q0
          by_cases hmem : k ∈ S.1
          · rw [if_pos hmem] at q0
            replace q0 : wr.cell? ⟨b0, o0 + k, none⟩ = some (.int .u64 1) := q0
            have HMM := Lib.hid hmem
            clear hmem
            go_wp2_with fail
            refine (oHas_any e0 g0 so k S.1 wr R6.out HSO.out (by omega) true (by simp [HMM.out])).mono ?_
            rintro e w7 ⟨rfl, hw⟩
            obtain rfl : wr = w7 := hw.symm
            go_wp2_with fail
            refine (oHas_any e0 g0 so k S.1 wr R6.out HSO.out (by omega) true (by simp [HMM.out])).mono ?_
            rintro e w7 ⟨rfl, hw⟩
            obtain rfl : wr = w7 := hw.symm
            go_wp2
            go_roundw
            case rel => exact ⟨k + 1, by omega, by go_num, by first | rfl | trivial⟩
            case measure => simp [intOf]; omega
          · rw [if_neg hmem] at q0
            replace q0 : wr.cell? ⟨b0, o0 + k, none⟩ = some (.int .u64 0) := q0
            have HMM := Lib.hid hmem
            clear hmem
            go_wp2_with fail
            refine (oHas_any e0 g0 so k S.1 wr R6.out HSO.out (by omega) false (by simp [HMM.out])).mono ?_
            rintro e w7 ⟨rfl, hw⟩
            obtain rfl : wr = w7 := hw.symm
            go_wp2_with fail
            refine (oHas_any e0 g0 so k S.1 wr R6.out HSO.out (by omega) false (by simp [HMM.out])).mono ?_
            rintro e w7 ⟨rfl, hw⟩
            obtain rfl : wr = w7 := hw.symm
            go_wp2
            go_roundw
            case rel => exact ⟨k + 1, by omega, by go_num, by first | rfl | trivial⟩
            case measure => simp [intOf]; omega
        · go_wp2
          go_ret
          exact ⟨rfl, B6.out⟩
end Go.Proofs.Ytjjmjjbeecmmlad
