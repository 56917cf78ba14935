/-
  The walk of FnOnceTreeTurned: the calls in the other order return the same and run the same nodes.
-/
import Derived.Test.YtjjmjjbeecmmladTreeMore
namespace Go.Proofs.Ytjjmjjbeecmmlad
set_option linter.unusedVariables false
set_option linter.unusedSimpArgs false
open Go.RowKit

set_option maxHeartbeats 1600000 in
set_option maxRecDepth 100000 in
theorem fnOnceTreeTurned_any (w : World) (a0 : Option Addr) (n0 c0 : Nat) (x0 : List (BitVec 8)) (k0 : Came w a0 n0 c0 (U8 x0)) (a1 : Option Addr) (n1 c1 : Nat) (x1 : List (BitVec 64)) (k1 : Came w a1 n1 c1 (U x1)) (a2 : Option Addr) (n2 c2 : Nat) (x2 : List (BitVec 8)) (k2 : Came w a2 n2 c2 (U8 x2)) (bd : n0 + n1 + n2 ≤ 1048576) :
    Calls Try.prog 4 #[.slice a0 n0 c0, .slice a1 n1 c1, .slice a2 n2 c2] w fun e w' => e = .returned (.bool true) ∧ Below w.heap.size w w' := by
  have K0 := Lib.hid k0.u8; have K1 := Lib.hid k1.u64; have K2 := Lib.hid k2.u8
  clear k0 k1 k2
  obtain ⟨XS, hxs⟩ : ∃ XS, x1.take 12 = XS := ⟨_, rfl⟩
  obtain ⟨N, hN⟩ : ∃ N, XS.length = N := ⟨_, rfl⟩
  have bN : N ≤ 12 := by rw [← hN, ← hxs]; simp; omega
  obtain ⟨calls, hcalls⟩ : ∃ l, oCalls x2 N = l := ⟨_, rfl⟩
  obtain ⟨m, hm⟩ : ∃ m, calls.length = m := ⟨_, rfl⟩
  have bm : m ≤ 1048576 := by
    rw [← hm, ← hcalls]
    unfold oCalls
    split
    · simp
    · simp [K2.out.2.1]; omega
  have HXS := Lib.hid hxs; have HN := Lib.hid hN; have HC := Lib.hid hcalls; have HM := Lib.hid hm
  have HCN : Hid (∀ i ∈ calls, i < N) := by refine Lib.hid ?_; rw [← hcalls]; exact oCalls_lt
  clear hxs hN hcalls hm
  obtain ⟨RA, hRA⟩ : ∃ R, calls.map (val (parOf x0) fun i => XS.getD i 0) = R := ⟨_, rfl⟩
  obtain ⟨S, hS⟩ : ∃ S, allRun (parOf x0) N calls = S := ⟨_, rfl⟩
  obtain ⟨T, hT⟩ : ∃ T, allRun (parOf x0) N calls.reverse = T := ⟨_, rfl⟩
  have HLR : Hid (RA.length = m) := by show _ = _; rw [← hRA, List.length_map, HM.out]
  have HRR : Hid (calls.reverse.map (val (parOf x0) fun i => XS.getD i 0) = RA.reverse) := by show _ = _; rw [← hRA, List.map_reverse]
  have HLE : Hid (∀ i, ∀ p ∈ parOf x0 i, p < i) := Lib.hid fun i p hp => parOf_less p hp
  have HC2 : Hid (∀ i ∈ calls.reverse, i < N) := Lib.hid fun i hi => HCN.out i (by simpa using hi)
  have HF : Hid (Fine N S) := by refine Lib.hid ?_; rw [← hS]; exact allRun_fine HLE.out HCN.out
  have HG : Hid (Fine N T) := by refine Lib.hid ?_; rw [← hT]; exact allRun_fine HLE.out HC2.out
  have HST : Hid (∀ x ∈ S.1, x ∈ T.1) := by refine Lib.hid ?_; rw [← hS, ← hT]; exact allRun_sub HLE.out HC2.out (by simp)
  have HTS : Hid (∀ x ∈ T.1, x ∈ S.1) := by refine Lib.hid ?_; rw [← hS, ← hT]; exact allRun_sub HLE.out HCN.out (by simp)
  have HLL : Hid (S.1.length = T.1.length) := Lib.hid (nodup_length HF.out.1 HG.out.1 HST.out HTS.out)
  have HCC : Hid (S.2 = T.2) := by
    refine Lib.hid (List.ext_getElem (by rw [HF.out.2.2, HG.out.2.2]) fun x h1 h2 => ?_)
    have hx : x < N := by rw [HF.out.2.2] at h1; exact h1
    have e1 := allRun_count (ps := parOf x0) HLE.out (calls := calls) hx
    have e2 := allRun_count (ps := parOf x0) HLE.out (calls := calls.reverse) hx
    rw [hS] at e1
    rw [hT] at e2
    have e3 : (x ∈ S.1) = (x ∈ T.1) := propext ⟨HST.out x, HTS.out x⟩
    simp only [e3, ← e2] at e1
    simpa [h1, h2] using e1
  obtain ⟨so, hso⟩ : ∃ so, S.1.length = so := ⟨_, rfl⟩
  have hto : T.1.length = so := by rw [← HLL.out, hso]
  have bso : so ≤ 12 := by have := nodup_le HF.out.1 HF.out.2.1; omega
  have HRA := Lib.hid hRA; have HS := Lib.hid hS; have HT := Lib.hid hT; have HSO := Lib.hid hso; have HTO := Lib.hid hto
  clear hRA hS hT hso hto
  have HRV : Hid (calls.reverse.length = m) := by show _ = _; rw [List.length_reverse, HM.out]
  have t1 : ((m : Int) != (m : Int)) = false := by simp
  have t2 : ((so : Int) != (so : Int)) = false := by simp
  have t3 : ((N : Int) != (N : Int)) = false := by simp
  go_enter Try.func4, Try.ntmps4
  have O0 := Lib.hid (Owns.nil w w.heap.size); have B0 := Lib.hid (Below.refl w.heap.size w)
  have hz0 : w.heap.size ≤ w.heap.size := Nat.le_refl _
  go_wp2_with fail
  refine (oNumbers_any w a1 n1 c1 N x1 XS K1.out.1 K1.out.2.1 K1.out.2.2.1 K1.out.2.2.2 (by omega) HXS.out HN.out).mono ?_
  rintro e w1 ⟨s0, d0, rfl, ho, hb⟩
  have O1 := Lib.hid (O0.out.more hb ho hz0); have B1 := Lib.hid (Below.more B0.out hb hz0)
  have hz1 : w.heap.size ≤ w1.heap.size := B1.out.size
  clear ho hb O0 B0 hz0
  go_wp2_with fail
  refine (oParents_any w1 a0 n0 c0 N x0 (K0.out.1.mono B1.out (Nat.le_refl _)) K0.out.2.1 (by omega) (by omega)).mono ?_
  rintro e w2 ⟨pa, pc, R, rfl, hin, ho, hb⟩
  have O2 := Lib.hid (Laid.of O1.out ⟨R, hin, ho⟩ hb hz1); have B2 := Lib.hid (Below.more B1.out hb hz1)
  have hz2 : w.heap.size ≤ w2.heap.size := B2.out.size
  clear hin ho hb O1 B1 hz1
  go_wp2_with fail
  refine (oCalls_any w2 a2 n2 c2 N m x2 calls (K2.out.1.mono B2.out (Nat.le_refl _)) K2.out.2.1 (by omega) HC.out HM.out (by omega)).mono ?_
  rintro e w3 ⟨s1, d1, rfl, ho, hb⟩
  have O3 := Lib.hid (O2.out.more hb ho hz2); have B3 := Lib.hid (Below.more B2.out hb hz2)
  have hz3 : w.heap.size ≤ w3.heap.size := B3.out.size
  clear ho hb O2 B2 hz2
  have L0 := Lib.hid (O3.out.made hz3 3 #[] (by simp))
  have M0 := Lib.hid (B3.out.alloc hz3 (.cells #[] 3))
  clear O3 B3
  go_wp2
  go_loopw [11, 10] (fun i v wr => ∃ (j k : Nat) (z : Int) (e0 : Option Addr) (g0 : Nat), j + k = m ∧ z + 1 = k ∧ i = .int .i64 z ∧ v = .slice e0 j g0 ∧ Laid wr w.heap.size (parOf x0) N pa pc [⟨25, s0, N, d0, U XS⟩, ⟨3, s1, m, d1, NI calls⟩, ⟨3, e0, j, g0, NI (calls.reverse.take j)⟩] ∧ Below w.heap.size w wr) (fun i _ _ => (intOf i + 1).toNat)
  case atStart => exact ⟨0, m, _, _, _, by omega, by omega, rfl, rfl, L0.out, M0.out⟩
  case round =>
    clear L0 M0 hz3
    obtain ⟨j, k, z, e0, g0, hjk, hz, rfl, rfl, ho, hb⟩ := hrel
    have hsz := hb.size
    by_cases hlt : 0 < k
    · obtain ⟨k', rfl⟩ : ∃ k', k = k' + 1 := ⟨k - 1, by omega⟩
      have hzk : z = (k' : Int) := by omega
      subst hzk
      have lc : k' < calls.length := by rw [HM.out]; omega
      obtain ⟨b0, rfl⟩ := ho.owns.addr 1 rfl (k := k') (by simpa using lc)
      have q0 := ho.owns.getI 1 rfl lc
      obtain ⟨x, hx⟩ : ∃ x, calls[k'] = x := ⟨_, rfl⟩
      rw [hx] at q0
      have HTK : Hid (NI (calls.reverse.take (j + 1)) = NI (calls.reverse.take j) ++ [.int .i64 (x : Int)]) := by
        refine Lib.hid ?_
        have lr : j < calls.reverse.length := by rw [HRV.out]; omega
        rw [List.take_succ_eq_append_getElem lr, NI_snoc, ← hx]
        congr 4
        simp only [List.getElem_reverse, HM.out]
        congr 1
        omega
      obtain ⟨R, hin, hown⟩ := ho
      have HIN := Lib.hid hin
      have HO : Hid (Owns wr w.heap.size (((⟨28, pa, N, pc, R.map Row.val⟩ :: R) ++ [⟨25, s0, N, d0, U XS⟩, ⟨3, some ⟨b0, 0, none⟩, m, d1, NI calls⟩]) ++ ⟨3, e0, j, g0, NI (calls.reverse.take j)⟩ :: [])) := by
        refine Lib.hid ?_
        rw [List.append_assoc]
        exact hown
      have HB := Lib.hid hb
      clear hown hin hb hx
      go_wp2_with (at_builtin; refine app3s _ [] (.tmp 39) (.tmp 44) rfl rfl wr.heap.size rfl rfl rfl HO.out rfl (by omega) (by omega) ?_)
      intro e1 g1 w4 ho4 hb4 hs4
      have HR : Hid (Laid w4 w.heap.size (parOf x0) N pa pc [⟨25, s0, N, d0, U XS⟩, ⟨3, some ⟨b0, 0, none⟩, m, d1, NI calls⟩, ⟨3, e1, j + 1, g1, NI (calls.reverse.take (j + 1))⟩]) := by
        refine Lib.hid ⟨R, HIN.out, ?_⟩
        rw [HTK.out]
        simpa using ho4
      have HT4 := Lib.hid (HB.out.trans hb4)
      clear ho4 hb4 HO HB
      go_wp2
      go_roundw
      case rel => exact ⟨j + 1, k', _, e1, g1, by omega, by omega, rfl, rfl, HR.out, HT4.out⟩
      case measure => simp [intOf]
    · have hk0 : k = 0 := by omega
      subst hk0
      have hjm : m = j := by omega
      subst hjm
      have hzk : z = -1 := by omega
      subst hzk
      rw [List.take_of_length_le (by rw [HRV.out]; omega)] at ho
      obtain ⟨w3, rfl⟩ : ∃ w3 : World, w3 = wr := ⟨_, rfl⟩
      have O3 := Lib.hid ho; have B3 := Lib.hid hb; have hz3 := hsz
      clear ho hb hsz
      go_wp2_with fail
      refine (tree_laid O3.out 0 1 rfl rfl (by omega) (by omega) HCN.out HRA.out HS.out).mono ?_
      rintro e w4 ⟨r0, h0, r1, h1, r2, h2, rfl, ho, hb⟩
      have O4 := Lib.hid (O3.out.more hb ho hz3); have B4 := Lib.hid (Below.more B3.out hb hz3)
      have hz4 : w.heap.size ≤ w4.heap.size := B4.out.size
      clear ho hb O3 B3 hz3
      rw [HSO.out] at O4 ⊢
      go_wp2_with fail
      refine (tree_laid O4.out 0 2 rfl rfl (by omega) (by omega) HC2.out HRR.out HT.out).mono ?_
      rintro e w5 ⟨r3, h3, r4, h4, r5, h5, rfl, ho, hb⟩
      have O5 := Lib.hid (O4.out.more hb ho hz4); have B5 := Lib.hid (Below.more B4.out hb hz4)
      have hz5 : w.heap.size ≤ w5.heap.size := B5.out.size
      clear ho hb O4 B4 hz4
      rw [HTO.out] at O5 ⊢
      have P5 := Lib.hid O5.out.owns
      clear O5
      have O5 := P5
      clear P5
      go_wp2_with fail
      refine (sameWords_any r2 r5 h2 h5 N N S.2 T.2 w5 (O5.out.rdAt 5 rfl) (O5.out.rdAt 8 rfl) HF.out.2.2 HG.out.2.2 (by omega) (by omega) true (by rw [HCC.out]; simp)).mono ?_
      rintro e w6 ⟨rfl, hb⟩
      have O6 := Lib.hid (O5.out.mono hb (Nat.le_refl _)); have B6 := Lib.hid (Below.more B5.out hb hz5)
      have hz6 : w.heap.size ≤ w6.heap.size := B6.out.size
      clear hb O5 B5 hz5
      go_wp2
      go_loopw [96] (fun i wr => ∃ k : Nat, k ≤ m ∧ i = .int .i64 k ∧ Owns wr w.heap.size [⟨25, r0, m, h0, U RA⟩, ⟨3, r1, so, h1, NI S.1⟩, ⟨25, r3, m, h3, U RA.reverse⟩, ⟨3, r4, so, h4, NI T.1⟩] ∧ Below w.heap.size w wr) (fun i _ => m - (intOf i).toNat)
      case atStart => exact ⟨0, Nat.zero_le _, rfl, O6.out.drop (by repeat (first | exact List.nil_sublist _ | apply List.Sublist.cons_cons | apply List.Sublist.cons)), B6.out⟩
      case round =>
        clear O6 B6 hz6
        obtain ⟨k, hk, rfl, ho, hb⟩ := hrel
        by_cases hlt : k < m
        · have la : k < RA.length := by rw [HLR.out]; exact hlt
          have lb : m - 1 - k < RA.reverse.length := by rw [List.length_reverse, HLR.out]; omega
          obtain ⟨b0, rfl⟩ := ho.addr 0 rfl (k := k) (by simpa using la)
          obtain ⟨b1, rfl⟩ := ho.addr 2 rfl (k := m - 1 - k) (by simpa using lb)
          have q0 := ho.get64 0 rfl la
          have q1 := ho.get64 2 rfl lb
          have e1 : RA.reverse[m - 1 - k] = RA[k] := by
            simp only [List.getElem_reverse, HLR.out]
            congr 1
            omega
          rw [e1] at q1
          obtain ⟨x, hx⟩ : ∃ x, RA[k] = x := ⟨_, rfl⟩
          rw [hx] at q0 q1
          have c1 : ((m : Int) - 1 - (k : Int)).toNat = m - 1 - k := by omega
          have t2 : ((x.toNat : Int) != (x.toNat : Int)) = false := by simp
          have HO := Lib.hid ho; have HB := Lib.hid hb
          clear ho hb hx e1
          go_wp2
          go_quiet (fail)
          go_wp2
          go_roundw
          case rel => exact ⟨k + 1, by omega, by go_num, HO.out.drewN _, below_drewN HB.out _⟩
          case measure => simp [intOf]; omega
        · have HO := Lib.hid ho; have HB := Lib.hid hb
          clear ho hb
          obtain ⟨w7, rfl⟩ : ∃ w7 : World, w7 = wr := ⟨_, rfl⟩
          go_wp2
          go_loopw [115] (fun i wr => ∃ k : Nat, k ≤ so ∧ i = .int .i64 k ∧ wr = w7) (fun i _ => so - (intOf i).toNat)
          case atStart => exact ⟨0, Nat.zero_le _, rfl, rfl⟩
          case round =>
            obtain ⟨k, hk, rfl, rfl⟩ := hrel
            by_cases hlt : k < so
            · have la : k < S.1.length := by rw [HSO.out]; exact hlt
              obtain ⟨b0, rfl⟩ := HO.out.addr 1 rfl (k := k) (by simpa using la)
              have q0 := HO.out.getI 1 rfl la
              have HM2 := Lib.hid (HST.out _ (List.getElem_mem la))
              obtain ⟨x, hx⟩ : ∃ x, S.1[k] = x := ⟨_, rfl⟩
              rw [hx] at q0 HM2
              clear hx
              go_wp2_with fail
              refine (oHas_any r4 h4 so x T.1 wr (HO.out.rdAt 3 rfl) HTO.out (by omega) true (by simp [HM2.out])).mono ?_
              rintro e w8 ⟨rfl, rfl⟩
              go_wp2
              go_roundw
              case rel => exact ⟨k + 1, by omega, by go_num, by first | rfl | trivial⟩
              case measure => simp [intOf]; omega
            · go_wp2
              go_ret
              exact ⟨rfl, HB.out⟩
end Go.Proofs.Ytjjmjjbeecmmlad
