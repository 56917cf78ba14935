/-
  The walk of FnOnceFlagsWord: behind each call the word has the bits of all masks called so far.
-/
import Derived.Test.YtjjmjjbeecmmlaeOFns
import Derived.Test.YtjjmjjbeecmmlaeFlags
import Derived.Test.YtjjmjjbeecmmlaeFrame
namespace Go.Proofs.Ytjjmjjbeecmmlae
set_option linter.unusedVariables false
set_option linter.unusedSimpArgs false
open Go.RowKit

set_option maxHeartbeats 3200000 in
set_option maxRecDepth 100000 in
theorem fnOnceFlagsWord_any (w : World) (a0 : Option Addr) (n0 c0 : Nat) (x0 : List (BitVec 64)) (k0 : Came w a0 n0 c0 (U x0)) (a1 : Option Addr) (n1 c1 : Nat) (x1 : List (BitVec 8)) (k1 : Came w a1 n1 c1 (U8 x1)) (bd : n0 + n1 ≤ 1048576) :
    Calls Try.prog 4 #[.slice a0 n0 c0, .slice a1 n1 c1] w fun e w' => e = .returned (.bool true) ∧ Below w.heap.size w w' := by
  obtain ⟨i0, hi, hzz0, hzz1, hzz2⟩ := info_parts info30
  have hnot : ∀ (x : Bool) (w : World), (Op.unary .not (.bool x)).run Try.prog w = .ok (.bool (!x)) w := fun _ _ => rfl
  have K0 := Lib.hid k0.u64; have K1 := Lib.hid k1.u8
  clear k0 k1
  obtain ⟨XS, hxs⟩ : ∃ XS, x0.take 12 = XS := ⟨_, rfl⟩
  obtain ⟨N, hN⟩ : ∃ N, XS.length = N := ⟨_, rfl⟩
  have bN : N ≤ 12 := by rw [← hN, ← hxs]; simp; omega
  have HXS := Lib.hid hxs; have HN := Lib.hid hN
  clear hxs hN
  obtain ⟨calls, hcalls⟩ : ∃ l, oCalls x1 N = l := ⟨_, rfl⟩
  obtain ⟨m, hm⟩ : ∃ m, calls.length = m := ⟨_, rfl⟩
  have bm : m ≤ 1048576 := by
    rw [← hm, ← hcalls]
    unfold oCalls
    split
    · simp
    · simp [K1.out.2.1]; omega
  have HC := Lib.hid hcalls; have HM := Lib.hid hm
  have HCN : Hid (∀ i ∈ calls, i < N) := by refine Lib.hid ?_; rw [← hcalls]; exact oCalls_lt
  clear hcalls hm
  obtain ⟨T, hT⟩ : ∃ T, onceAt (flagsAct XS) N 0 0 calls = T := ⟨_, rfl⟩
  obtain ⟨seen, hseen⟩ : ∃ l, (List.range m).map (fun j => (T (j + 1)).2.2) = l := ⟨_, rfl⟩
  have HT0 : Hid (T 0 = ([], List.replicate N 0, 0)) := by show _ = _; rw [← hT]; rfl
  have HTS : Hid (∀ j i (h : j < calls.length), calls[j] = i → T (j + 1) = onceStep (flagsAct XS) (T j) i) := by refine Lib.hid fun j i h hi => ?_; rw [← hT]; exact onceAt_succ h hi
  have HTL : Hid (∀ j, (T j).2.1.length = N) := by refine Lib.hid fun j => ?_; rw [← hT]; exact onceAt_length
  have HTD : Hid (∀ j, (T j).1.length ≤ N) := by refine Lib.hid fun j => ?_; rw [← hT]; exact onceAt_short HCN.out
  have HSL : Hid (seen.length = m) := by show _ = _; rw [← hseen]; simp
  have HSG : Hid (∀ j (h : j < seen.length), seen[j] = (T (j + 1)).2.2) := by refine Lib.hid ?_; subst hseen; intro j h; simp
  have HTT := Lib.hid hT
  clear hT hseen
  have t1 : ((m : Int) != (m : Int)) = false := by simp
  have t2 : ((N : Int) != (N : Int)) = false := by simp
  have O0 := Lib.hid (Owns.nil w w.heap.size); have B0 := Lib.hid (Below.refl w.heap.size w)
  have hz0 : w.heap.size ≤ w.heap.size := Nat.le_refl _
  go_enter Try.func4, Try.ntmps4
  go_wp2_with fail
  refine (oNumbers_any w a0 n0 c0 N x0 XS K0.out.1 K0.out.2.1 K0.out.2.2.1 K0.out.2.2.2 (by omega) HXS.out HN.out).mono ?_
  rintro e w1 ⟨s0, d0, rfl, ho, hb⟩
  have O1 := Lib.hid (O0.out.more hb ho hz0); have B1 := Lib.hid (Below.more B0.out hb hz0)
  have hz1 : w.heap.size ≤ w1.heap.size := B1.out.size
  clear ho hb O0 B0 hz0
  go_wp2_with fail
  refine (oCalls_any w1 a1 n1 c1 N m x1 calls (K1.out.1.mono B1.out (Nat.le_refl _)) K1.out.2.1 (by omega) HC.out HM.out (by omega)).mono ?_
  rintro e w2 ⟨s1, d1, rfl, ho, hb⟩
  have O2 := Lib.hid (O1.out.more hb ho hz1); have B2 := Lib.hid (Below.more B1.out hb hz1)
  have hz2 : w.heap.size ≤ w2.heap.size := B2.out.size
  clear ho hb O1 B1 hz1
  go_wp2_with fail
  refine (onceFlags_any w2 s0 s1 N d0 m d1 XS calls HN.out (O2.out.rdAt 0 rfl) (by omega) HM.out bm (O2.out.rdAt 1 rfl) HCN.out T HTT.out seen (T m).2.1 HSL.out HSG.out rfl).mono ?_
  rintro e w3 ⟨s2, d2, s3, d3, rfl, ho, hb⟩
  have O3 := Lib.hid (O2.out.more hb ho hz2); have B3 := Lib.hid (Below.more B2.out hb hz2)
  have hz3 : w.heap.size ≤ w3.heap.size := B3.out.size
  clear ho hb O2 B2 hz2
  go_wp2_with (at_make; refine wpList_make_full _ rfl _ _ 23 rfl w3.heap.size 24 i0 (.int .u64 0) 1 Try.underlying23 hi hzz0 hzz1 .i64 .i64 _ _ N rfl rfl rfl rfl (by rw [hzz2]; omega) (by simp only [maxLen]; omega) (Nat.le_refl _) ?_)
  intro w4 ho4 hg4
  rw [made_u64] at ho4
  obtain ⟨hoA, hbA⟩ := O3.out.makes (b := w3.heap.size) hz3 rfl ho4 hg4
  have B4 := Lib.hid (Below.more B3.out hbA hz3)
  have hz4 : w.heap.size ≤ w4.heap.size := B4.out.size
  have O5 := Lib.hid (hoA.made hz4 3 #[] (by simp))
  have B5 := Lib.hid (B4.out.alloc hz4 (.cells #[] 3))
  obtain ⟨nb, hnb⟩ : ∃ nb, w3.heap.size = nb := ⟨_, rfl⟩
  rw [hnb] at O5 ⊢
  clear ho4 hg4 hoA hbA O3 B3 hz3 B4 hz4 hnb hi hzz0 hzz1 hzz2
  go_wp2
  go_loopw [44, 9, 11] (fun i u v wr => ∃ (j : Nat) (e0 : Option Addr) (g0 : Nat), j ≤ m ∧ i = .int .i64 j ∧ u = .int .u64 ((T j).2.2.toNat : Int) ∧ v = .slice e0 (T j).1.length g0 ∧ Owns wr w.heap.size [⟨24, s0, N, d0, U XS⟩, ⟨3, s1, m, d1, NI calls⟩, ⟨24, s2, m, d2, U seen⟩, ⟨24, s3, N, d3, U (T m).2.1⟩, ⟨24, some ⟨nb, 0, none⟩, N, N, U (T j).2.1⟩, ⟨3, e0, (T j).1.length, g0, NI (T j).1⟩] ∧ Below w.heap.size w wr) (fun i _ _ _ => m - (intOf i).toNat)
  case atStart =>
    refine ⟨0, _, _, Nat.zero_le _, rfl, by rw [HT0.out]; rfl, by rw [HT0.out]; rfl, ?_, B5.out⟩
    rw [HT0.out]
    exact O5.out
  case round =>
    clear O5 B5
    obtain ⟨j, e0, g0, hj, rfl, rfl, rfl, ho, hb⟩ := hrel
    have hsz := hb.size
    have hdl := HTD.out j
    by_cases hlt : j < m
    · have lj : j < calls.length := by rw [HM.out]; exact hlt
      have lo : j < seen.length := by rw [HSL.out]; exact hlt
      obtain ⟨i, hij⟩ : ∃ i, calls[j] = i := ⟨_, rfl⟩
      have hin : i < N := by rw [← hij]; exact HCN.out _ (List.getElem_mem lj)
      have lx : i < XS.length := by rw [HN.out]; exact hin
      have lt1 : i < (T j).2.1.length := by rw [HTL.out]; exact hin
      obtain ⟨b1, rfl⟩ := ho.addr 1 rfl (k := j) (by simpa using lj)
      obtain ⟨b2, rfl⟩ := ho.addr 2 rfl (k := j) (by simpa using lo)
      obtain ⟨b0, rfl⟩ := ho.addr 0 rfl (k := i) (by simpa using lx)
      have q1 := ho.getI 1 rfl lj
      rw [hij] at q1
      have HST := Lib.hid (HTS.out j i lj hij)
      have HV := Lib.hid (HSG.out j lo)
      obtain ⟨L, hL⟩ : ∃ L, (T j).1.length = L := ⟨_, rfl⟩
      rw [hL] at ho hdl ⊢
      have HLL := Lib.hid hL
      clear hij hL
      by_cases hmem : i ∈ (T j).1
      · have HE := Lib.hid (HST.out.trans (onceStep_old hmem))
        rw [HE.out] at HV
        have q2 := ho.get64 2 rfl lo
        rw [HV.out] at q2
        obtain ⟨r, hr⟩ : ∃ r, (T j).2.2 = r := ⟨_, rfl⟩
        rw [hr] at q2 ⊢
        have tr : ((r.toNat : Int) != (r.toNat : Int)) = false := by simp
        have HMM := Lib.hid hmem; have HRR := Lib.hid hr
        have HO := Lib.hid ho; have HB := Lib.hid hb
        clear ho hb hmem hr
        go_wp2_with fail
        refine (oHas_any e0 g0 L i (T j).1 wr (HO.out.rdAt 5 rfl) HLL.out (by omega) true (by simp [HMM.out])).mono ?_
        rintro e w6 ⟨rfl, rfl⟩
        go_wp2
        go_roundw
        case rel => exact ⟨j + 1, e0, g0, by omega, by go_num, by rw [HE.out, HRR.out], by rw [HE.out, HLL.out], by rw [HE.out, HLL.out]; exact HO.out, HB.out⟩
        case measure => simp [intOf] <;> omega
      · have HE := Lib.hid (HST.out.trans (onceStep_new hmem))
        have HMM := Lib.hid hmem
        have HO := Lib.hid ho; have HB := Lib.hid hb
        clear ho hb hmem
        obtain ⟨th, hth⟩ : ∃ t, (T j).2.2 = t := ⟨_, rfl⟩
        obtain ⟨x, hx⟩ : ∃ x, XS[i] = x := ⟨_, rfl⟩
        have hxg : XS.getD i 0 = x := by rw [← hx]; simp [lx]
        have HX := Lib.hid hx
        rw [hth] at HE ⊢
        obtain ⟨z, hz⟩ : ∃ z, th ||| x = z := ⟨_, rfl⟩
        have hop : bits .or .u64 (th.toNat : Int) (x.toNat : Int) = (z.toNat : Int) := by rw [bits_or, hz]
        have HE1 : Hid ((T (j + 1)).1 = (T j).1 ++ [i]) := by show _ = _; rw [HE.out]
        have HE2 : Hid ((T (j + 1)).2.1 = (T j).2.1.set i th) := by show _ = _; rw [HE.out]; rfl
        have HE3 : Hid ((T (j + 1)).2.2 = z) := by show _ = _; rw [HE.out, ← hz, ← hxg]; rfl
        rw [HE3.out] at HV
        clear hth hxg hx HE hz
        go_wp2_with fail
        refine (oHas_any e0 g0 L i (T j).1 wr (HO.out.rdAt 5 rfl) HLL.out (by omega) false (by simp [HMM.out])).mono ?_
        rintro e w6 ⟨rfl, rfl⟩
        go_wp2_with (at_builtin; refine app3s [_, _, _, _, _] [] (.tmp 53) (.tmp 55) rfl rfl w6.heap.size rfl rfl rfl HO.out rfl (by omega) (by omega) ?_)
        intro e1 g1 w7 ho7 hb7 hs7
        have f3 := ho7.free 4 rfl i
        obtain ⟨u3, q3⟩ := ho7.has 4 rfl (k := i) (by simpa using lt1)
        obtain ⟨ho8, hb8⟩ := Owns.stored (p := [_, _, _, _]) ho7 rfl i (.int .u64 (th.toNat : Int))
        have HO8 : Hid (Owns (w7.setCell ⟨nb, i, none⟩ (.int .u64 (th.toNat : Int))) w.heap.size [⟨24, some ⟨b0, 0, none⟩, N, d0, U XS⟩, ⟨3, some ⟨b1, 0, none⟩, m, d1, NI calls⟩, ⟨24, some ⟨b2, 0, none⟩, m, d2, U seen⟩, ⟨24, s3, N, d3, U (T m).2.1⟩, ⟨24, some ⟨nb, 0, none⟩, N, N, U (T (j + 1)).2.1⟩, ⟨3, e1, L + 1, g1, NI (T (j + 1)).1⟩]) := by
          refine Lib.hid ?_
          rw [HE1.out, HE2.out, NI_snoc, ← U_set]
          exact ho8
        have HB8 := Lib.hid (HB.out.trans (hb7.trans hb8))
        clear ho7 ho8 hb7 hb8 HO HB
        have q0 := HO8.out.get64 0 rfl lx
        rw [HX.out] at q0
        have q2 := HO8.out.get64 2 rfl lo
        rw [HV.out] at q2
        have tr : ((z.toNat : Int) != (z.toNat : Int)) = false := by simp
        go_wp2
        go_roundw
        case rel => exact ⟨j + 1, e1, g1, by omega, by go_num, by rw [HE3.out], by rw [HE1.out, List.length_append, HLL.out]; rfl, by rw [show (T (j + 1)).1.length = L + 1 by rw [HE1.out, List.length_append, HLL.out]; rfl]; exact HO8.out, HB8.out⟩
        case measure => simp [intOf] <;> omega
    · have hjm : m = j := by omega
      subst hjm
      obtain ⟨w6, rfl⟩ : ∃ w6 : World, w6 = wr := ⟨_, rfl⟩
      have O6 := Lib.hid ho; have B6 := Lib.hid hb; have hz6 := hsz
      clear ho hb hsz
      go_wp2_with fail
      refine (sameWords_any s3 (some ⟨nb, 0, none⟩) d3 N N N (T m).2.1 (T m).2.1 w6 (O6.out.rdAt 3 rfl) (O6.out.rdAt 4 rfl) (HTL.out m) (HTL.out m) (by omega) (by omega) true (by simp)).mono ?_
      rintro e w7 ⟨rfl, hb⟩
      have O7 := Lib.hid (O6.out.mono hb (Nat.le_refl _)); have B7 := Lib.hid (Below.more B6.out hb hz6)
      have hz7 : w.heap.size ≤ w7.heap.size := B7.out.size
      clear hb O6 B6 hz6
      go_wp2
      go_ret
      exact ⟨rfl, B7.out⟩
end Go.Proofs.Ytjjmjjbeecmmlae
