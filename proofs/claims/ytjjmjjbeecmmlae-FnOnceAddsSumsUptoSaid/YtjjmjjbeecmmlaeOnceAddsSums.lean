/-
  The walk of FnOnceAddsSums: a cell is at last what it was, with the numbers of those of its actions added that were called.
-/
import Derived.Test.YtjjmjjbeecmmlaeOFns
import Derived.Test.YtjjmjjbeecmmlaeAdds
import Derived.Test.YtjjmjjbeecmmlaeFrame
import Derived.StillTailTactics
namespace Go.Proofs.Ytjjmjjbeecmmlae
set_option linter.unusedVariables false
set_option linter.unusedSimpArgs false
open Go.RowKit

set_option maxHeartbeats 3200000 in
set_option maxRecDepth 100000 in
theorem fnOnceAddsSums_any (w : World) (a0 : Option Addr) (n0 c0 : Nat) (x0 : List (BitVec 64)) (k0 : Came w a0 n0 c0 (U x0)) (a1 : Option Addr) (n1 c1 : Nat) (x1 : List (BitVec 8)) (k1 : Came w a1 n1 c1 (U8 x1)) (a2 : Option Addr) (n2 c2 : Nat) (x2 : List (BitVec 64)) (k2 : Came w a2 n2 c2 (U x2)) (a3 : Option Addr) (n3 c3 : Nat) (x3 : List (BitVec 8)) (k3 : Came w a3 n3 c3 (U8 x3)) (bd : n0 + n1 + n2 + n3 ≤ 1048576) :
    Calls Try.prog 8 #[.slice a0 n0 c0, .slice a1 n1 c1, .slice a2 n2 c2, .slice a3 n3 c3] w fun e w' => e = .returned (.bool true) ∧ Below w.heap.size w w' := by
  have hnot : ∀ (x : Bool) (w : World), (Op.unary .not (.bool x)).run Try.prog w = .ok (.bool (!x)) w := fun _ _ => rfl
  have K0 := Lib.hid k0.u64; have K1 := Lib.hid k1.u8; have K2 := Lib.hid k2.u64; have K3 := Lib.hid k3.u8
  clear k0 k1 k2 k3
  obtain ⟨XS, hxs⟩ : ∃ XS, x0.take 12 = XS := ⟨_, rfl⟩
  obtain ⟨NW, hNW⟩ : ∃ N, XS.length = N := ⟨_, rfl⟩
  have bNW : NW ≤ 12 := by rw [← hNW, ← hxs]; simp; omega
  obtain ⟨YS, hys⟩ : ∃ XS, x2.take 12 = XS := ⟨_, rfl⟩
  obtain ⟨N, hN⟩ : ∃ N, YS.length = N := ⟨_, rfl⟩
  have bN : N ≤ 12 := by rw [← hN, ← hys]; simp; omega
  have HXS := Lib.hid hxs; have HNW := Lib.hid hNW; have HYS := Lib.hid hys; have HN := Lib.hid hN
  clear hxs hNW hys hN
  obtain ⟨calls, hcalls⟩ : ∃ l, oCalls x3 N = l := ⟨_, rfl⟩
  obtain ⟨m, hm⟩ : ∃ m, calls.length = m := ⟨_, rfl⟩
  have bm : m ≤ 1048576 := by
    rw [← hm, ← hcalls]
    unfold oCalls
    split
    · simp
    · simp [K3.out.2.1]; omega
  have HC := Lib.hid hcalls; have HM := Lib.hid hm
  have HCN : Hid (∀ i ∈ calls, i < N) := by refine Lib.hid ?_; rw [← hcalls]; exact oCalls_lt
  clear hcalls hm
  have O0 := Lib.hid (Owns.nil w w.heap.size); have B0 := Lib.hid (Below.refl w.heap.size w)
  have hz0 : w.heap.size ≤ w.heap.size := Nat.le_refl _
  go_enter Try.func8, Try.ntmps8
  go_wp2_with fail
  refine (oNumbers_any w a0 n0 c0 NW x0 XS K0.out.1 K0.out.2.1 K0.out.2.2.1 K0.out.2.2.2 (by omega) HXS.out HNW.out).mono ?_
  rintro e w1 ⟨s0, d0, rfl, ho, hb⟩
  have O1 := Lib.hid (O0.out.more hb ho hz0); have B1 := Lib.hid (Below.more B0.out hb hz0)
  have hz1 : w.heap.size ≤ w1.heap.size := B1.out.size
  clear ho hb O0 B0 hz0
  go_wp2_with fail
  refine (oNumbers_any w1 a2 n2 c2 N x2 YS (K2.out.1.mono B1.out (Nat.le_refl _)) K2.out.2.1 K2.out.2.2.1 K2.out.2.2.2 (by omega) HYS.out HN.out).mono ?_
  rintro e w2 ⟨s2, d2, rfl, ho, hb⟩
  have O2 := Lib.hid (O1.out.more hb ho hz1); have B2 := Lib.hid (Below.more B1.out hb hz1)
  have hz2 : w.heap.size ≤ w2.heap.size := B2.out.size
  clear ho hb O1 B1 hz1
  by_cases hw0 : NW = 0
  · have t0 : ((NW : Int) == 0) = true := by rw [hw0]; rfl
    clear hw0
    go_wp2
    go_ret
    exact ⟨rfl, B2.out⟩
  have t0 : ((NW : Int) == 0) = false := by rw [beq_eq_false_iff_ne]; omega
  have pw : 0 < NW := by omega
  obtain ⟨PL, hPL⟩ : ∃ l, (List.range N).map (fun i => if i < n1 then (x1.getD i 0).toNat % NW else 0) = l := ⟨_, rfl⟩
  have HLP : Hid (PL.length = N) := by show _ = _; rw [← hPL]; simp
  have HGP : Hid (∀ i (h : i < PL.length), PL[i] = if i < n1 then (x1.getD i 0).toNat % NW else 0) := by refine Lib.hid ?_; subst hPL; intro i h; simp
  have HPW : Hid (∀ c ∈ PL, c < NW) := by
    refine Lib.hid fun c hc => ?_
    rw [← hPL] at hc
    obtain ⟨i, _, rfl⟩ := List.mem_map.1 hc
    split
    · exact Nat.mod_lt _ pw
    · exact pw
  clear hPL
  obtain ⟨T, hT⟩ : ∃ T, onceAt (addsAct PL YS) N () XS calls = T := ⟨_, rfl⟩
  obtain ⟨seen, hseen⟩ : ∃ l, calls.mapIdx (fun j i => (T (j + 1)).2.2.getD (PL.getD i 0) 0) = l := ⟨_, rfl⟩
  have HT0 : Hid (T 0 = ([], List.replicate N (), XS)) := by show _ = _; rw [← hT]; rfl
  have HTS : Hid (∀ j i (h : j < calls.length), calls[j] = i → T (j + 1) = onceStep (addsAct PL YS) (T j) i) := by refine Lib.hid fun j i h hi => ?_; rw [← hT]; exact onceAt_succ h hi
  have HTD : Hid (∀ j, (T j).1.length ≤ N) := by refine Lib.hid fun j => ?_; rw [← hT]; exact onceAt_short HCN.out
  have HTW : Hid (∀ j, j ≤ m → (T j).2.2.length = NW) := by
    refine Lib.hid fun j => ?_
    induction j with
    | zero => intro _; rw [HT0.out]; exact HNW.out
    | succ j ih =>
      intro hj
      have hm := HM.out
      rw [HTS.out j _ (by omega) rfl]
      have h1 := ih (by omega)
      generalize T j = t at h1
      by_cases hm : calls[j] ∈ t.1
      · rw [onceStep_old hm]; exact h1
      · rw [onceStep_new hm]; simp [addsAct, h1]
  have HSL : Hid (seen.length = m) := by show _ = _; rw [← hseen, List.length_mapIdx, HM.out]
  have HSG : Hid (∀ j i (h : j < seen.length) (h' : j < calls.length), calls[j] = i → seen[j] = (T (j + 1)).2.2.getD (PL.getD i 0) 0) := by refine Lib.hid ?_; subst hseen; intro j i h h' hi; subst hi; simp
  have HTT := Lib.hid hT
  clear hT hseen hw0
  have t1 : ((m : Int) != (m : Int)) = false := by simp
  have t2 : ((NW : Int) != (NW : Int)) = false := by simp
  have O3 := Lib.hid (O2.out.made hz2 3 #[] (by simp))
  have B3 := Lib.hid (B2.out.alloc hz2 (.cells #[] 3))
  clear O2 B2
  go_wp2
  go_loopw [31, 11] (fun i v wr => ∃ (k : Nat) (e0 : Option Addr) (g0 : Nat), k ≤ N ∧ i = .int .i64 k ∧ v = .slice e0 k g0 ∧ Owns wr w.heap.size [⟨24, s0, NW, d0, U XS⟩, ⟨24, s2, N, d2, U YS⟩, ⟨3, e0, k, g0, NI (PL.take k)⟩] ∧ Below w.heap.size w wr) (fun i _ _ => N - (intOf i).toNat)
  case atStart => exact ⟨0, _, _, Nat.zero_le _, rfl, rfl, by simpa using O3.out, B3.out⟩
  case round =>
    clear O3 B3 hz2
    obtain ⟨k, e0, g0, hk, rfl, rfl, ho, hb⟩ := hrel
    have hsz := hb.size
    by_cases hlt : k < N
    · have lp : k < PL.length := by rw [HLP.out]; exact hlt
      have HG := Lib.hid (HGP.out k lp)
      have HTP : Hid (NI (PL.take (k + 1)) = NI (PL.take k) ++ [.int .i64 ((PL[k] : Nat) : Int)]) := by refine Lib.hid ?_; rw [List.take_succ_eq_append_getElem lp, NI_snoc]
      by_cases h1 : k < n1
      · have l1 : k < x1.length := by rw [K1.out.2.1]; exact h1
        obtain ⟨ba, oa, rfl, qa⟩ := at_u8 K1.out.1 hb (Nat.le_refl _) l1
        obtain ⟨x, hx⟩ : ∃ x, x1[k] = x := ⟨_, rfl⟩
        have hxg : x1.getD k 0 = x := by rw [← hx]; simp [l1]
        rw [hx] at qa
        rw [if_pos h1, hxg] at HG
        obtain ⟨y, hy⟩ : ∃ y, x.toNat % NW = y := ⟨_, rfl⟩
        have hye : ((x.toNat : Int) % (NW : Int)) = (y : Int) := by rw [← hy]; simp
        rw [hy] at HG
        rw [HG.out] at HTP
        have bx := x.isLt
        have HO := Lib.hid ho; have HB := Lib.hid hb
        clear ho hb hx hxg hy
        go_wp2_with (at_builtin; refine app3s [_, _] [] (.tmp 46) (.tmp 48) rfl rfl wr.heap.size rfl rfl rfl HO.out rfl (by omega) (by omega) ?_)
        intro e1 g1 w4 ho4 hb4 hs4
        have HR : Hid (Owns w4 w.heap.size [⟨24, s0, NW, d0, U XS⟩, ⟨24, s2, N, d2, U YS⟩, ⟨3, e1, k + 1, g1, NI (PL.take (k + 1))⟩]) := by refine Lib.hid ?_; rw [HTP.out]; exact ho4
        have HT := Lib.hid (HB.out.trans hb4)
        clear ho4 hb4 HO HB
        go_wp2
        go_roundw
        case rel => exact ⟨k + 1, e1, g1, by omega, by go_num, rfl, HR.out, HT.out⟩
        case measure => simp [intOf] <;> omega
      · rw [if_neg h1] at HG
        rw [HG.out] at HTP
        have HO := Lib.hid ho; have HB := Lib.hid hb
        clear ho hb
        go_wp2_with (at_builtin; refine app3s [_, _] [] (.tmp 46) (.tmp 48) rfl rfl wr.heap.size rfl rfl rfl HO.out rfl (by omega) (by omega) ?_)
        intro e1 g1 w4 ho4 hb4 hs4
        have HR : Hid (Owns w4 w.heap.size [⟨24, s0, NW, d0, U XS⟩, ⟨24, s2, N, d2, U YS⟩, ⟨3, e1, k + 1, g1, NI (PL.take (k + 1))⟩]) := by refine Lib.hid ?_; rw [HTP.out]; exact ho4
        have HT := Lib.hid (HB.out.trans hb4)
        clear ho4 hb4 HO HB
        go_wp2
        go_roundw
        case rel => exact ⟨k + 1, e1, g1, by omega, by go_num, rfl, HR.out, HT.out⟩
        case measure => simp [intOf] <;> omega
    · have hkn : N = k := by omega
      subst hkn
      rw [List.take_of_length_le (by rw [HLP.out]; omega)] at ho
      obtain ⟨w1, rfl⟩ : ∃ w1 : World, w1 = wr := ⟨_, rfl⟩
      obtain ⟨s3, rfl⟩ : ∃ s, s = e0 := ⟨_, rfl⟩
      obtain ⟨d3, rfl⟩ : ∃ s, s = g0 := ⟨_, rfl⟩
      have O1 := Lib.hid ho; have B1 := Lib.hid hb; have hz1 := hsz
      clear ho hb hsz HGP
      go_wp2_with fail
      refine (oCalls_any w1 a3 n3 c3 N m x3 calls (K3.out.1.mono B1.out (Nat.le_refl _)) K3.out.2.1 (by omega) HC.out HM.out (by omega)).mono ?_
      rintro e w2 ⟨s1, d1, rfl, ho, hb⟩
      have O2 := Lib.hid (O1.out.more hb ho hz1); have B2 := Lib.hid (Below.more B1.out hb hz1)
      have hz2 : w.heap.size ≤ w2.heap.size := B2.out.size
      clear ho hb O1 B1 hz1
      go_wp2_with fail
      refine (onceAdds_any w2 s0 s3 s2 s1 NW N d0 d3 d2 m d1 XS YS PL calls HNW.out (O2.out.rdAt 0 rfl) HLP.out (O2.out.rdAt 2 rfl) HPW.out HN.out (O2.out.rdAt 1 rfl) (by omega) (by omega) HM.out bm (O2.out.rdAt 3 rfl) HCN.out T HTT.out seen (T m).2.2 HSL.out HSG.out rfl).mono ?_
      rintro e w3 ⟨s4, d4, s6, d6, rfl, ho, hb⟩
      have O3 := Lib.hid (O2.out.more hb ho hz2); have B3 := Lib.hid (Below.more B2.out hb hz2)
      have hz3 : w.heap.size ≤ w3.heap.size := B3.out.size
      clear ho hb O2 B2 hz2
      go_wp2_with fail
      refine (copied_any s0 d0 NW XS w3 (O3.out.rdAt 0 rfl) HNW.out (fun h => ((O3.out.cap 0 rfl).2.2 h).2) (by omega)).mono ?_
      rintro e w4 ⟨s5, d5, rfl, ho, hb⟩
      have O4 := Lib.hid (O3.out.more hb ho hz3); have B4 := Lib.hid (Below.more B3.out hb hz3)
      have hz4 : w.heap.size ≤ w4.heap.size := B4.out.size
      clear ho hb O3 B3 hz3
      have O5 := Lib.hid (O4.out.made hz4 3 #[] (by simp))
      have B5 := Lib.hid (B4.out.alloc hz4 (.cells #[] 3))
      clear O4 B4
      go_wp2
      go_loopw [80, 18] (fun i v wr => ∃ (j : Nat) (e0 : Option Addr) (g0 : Nat), j ≤ m ∧ i = .int .i64 j ∧ v = .slice e0 (T j).1.length g0 ∧ Owns wr w.heap.size [⟨24, s0, NW, d0, U XS⟩, ⟨24, s2, N, d2, U YS⟩, ⟨3, s3, N, d3, NI PL⟩, ⟨3, s1, m, d1, NI calls⟩, ⟨24, s4, m, d4, U seen⟩, ⟨24, s6, NW, d6, U (T m).2.2⟩, ⟨24, s5, NW, d5, U (T j).2.2⟩, ⟨3, e0, (T j).1.length, g0, NI (T j).1⟩] ∧ Below w.heap.size w wr) (fun i _ _ => m - (intOf i).toNat)
      case atStart =>
        refine ⟨0, _, _, Nat.zero_le _, rfl, by rw [HT0.out]; rfl, ?_, B5.out⟩
        rw [HT0.out]
        exact O5.out
      case round =>
        clear O5 B5 hz4
        obtain ⟨j, e0, g0, hj, rfl, rfl, ho, hb⟩ := hrel
        have hsz := hb.size
        have hdl := HTD.out j
        by_cases hlt : j < m
        · have lj : j < calls.length := by rw [HM.out]; exact hlt
          have lo : j < seen.length := by rw [HSL.out]; exact hlt
          obtain ⟨i, hij⟩ : ∃ i, calls[j] = i := ⟨_, rfl⟩
          have hin : i < N := by rw [← hij]; exact HCN.out _ (List.getElem_mem lj)
          have ly : i < YS.length := by rw [HN.out]; exact hin
          have lp : i < PL.length := by rw [HLP.out]; exact hin
          obtain ⟨c, hc⟩ : ∃ c, PL[i] = c := ⟨_, rfl⟩
          have hcg : PL.getD i 0 = c := by rw [← hc]; simp [lp]
          have hcw : c < NW := by rw [← hc]; exact HPW.out _ (List.getElem_mem lp)
          have lt1 : c < (T j).2.2.length := by rw [HTW.out j (by omega)]; exact hcw
          have lt2 : c < (T (j + 1)).2.2.length := by rw [HTW.out (j + 1) (by omega)]; exact hcw
          obtain ⟨b2, rfl⟩ := ho.addr 1 rfl (k := i) (by simpa using ly)
          obtain ⟨b3, rfl⟩ := ho.addr 2 rfl (k := i) (by simpa using lp)
          obtain ⟨b1, rfl⟩ := ho.addr 3 rfl (k := j) (by simpa using lj)
          obtain ⟨b4, rfl⟩ := ho.addr 4 rfl (k := j) (by simpa using lo)
          obtain ⟨b5, rfl⟩ := ho.addr 6 rfl (k := c) (by simpa using lt1)
          have q1 := ho.getI 3 rfl lj
          rw [hij] at q1
          have HST := Lib.hid (HTS.out j i lj hij)
          have HV := Lib.hid (HSG.out j i lo lj hij)
          rw [hcg] at HV
          obtain ⟨L, hL⟩ : ∃ L, (T j).1.length = L := ⟨_, rfl⟩
          rw [hL] at ho hdl ⊢
          have HLL := Lib.hid hL; have HCE := Lib.hid hc
          clear hij hL hc
          by_cases hmem : i ∈ (T j).1
          · have HE := Lib.hid (HST.out.trans (onceStep_old hmem))
            rw [HE.out] at HV
            have q2 := ho.get64 4 rfl lo
            have q3 := ho.getI 2 rfl lp
            have q5 := ho.get64 6 rfl lt1
            rw [HCE.out] at q3
            rw [HV.out, show (T j).2.2.getD c 0 = (T j).2.2[c] by simp [lt1]] at q2
            obtain ⟨r, hr⟩ : ∃ r, (T j).2.2[c] = r := ⟨_, rfl⟩
            rw [hr] at q2 q5
            have tr : ((r.toNat : Int) != (r.toNat : Int)) = false := by simp
            have HMM := Lib.hid hmem
            have HO := Lib.hid ho; have HB := Lib.hid hb
            clear ho hb hmem hr hcg
            go_wp2_with fail
            refine (oHas_any e0 g0 L i (T j).1 wr (HO.out.rdAt 7 rfl) HLL.out (by omega) true (by simp [HMM.out])).mono ?_
            rintro e w6 ⟨rfl, rfl⟩
            go_wp2
            go_quiet (fail)
            go_wp2
            go_roundw
            case rel => exact ⟨j + 1, e0, g0, by omega, by go_num, by rw [HE.out, HLL.out], by rw [HE.out, HLL.out]; exact HO.out.drewN _, below_drewN HB.out _⟩
            case measure => simp [intOf] <;> omega
          · have HE := Lib.hid (HST.out.trans (onceStep_new hmem))
            have HMM := Lib.hid hmem
            have HO := Lib.hid ho; have HB := Lib.hid hb
            clear ho hb hmem
            obtain ⟨x, hx⟩ : ∃ x, YS[i] = x := ⟨_, rfl⟩
            have hxg : YS.getD i 0 = x := by rw [← hx]; simp [ly]
            have HX := Lib.hid hx
            obtain ⟨o, hO⟩ : ∃ o, (T j).2.2[c] = o := ⟨_, rfl⟩
            have hog : (T j).2.2.getD c 0 = o := by rw [← hO]; simp [lt1]
            have HOO := Lib.hid hO
            obtain ⟨z, hz⟩ : ∃ z, o + x = z := ⟨_, rfl⟩
            have hop : IntKind.u64.wrap ((o.toNat : Int) + (x.toNat : Int)) = (z.toNat : Int) := by rw [u64_add, hz]
            have HE1 : Hid ((T (j + 1)).1 = (T j).1 ++ [i]) := by show _ = _; rw [HE.out]
            have HE2 : Hid ((T (j + 1)).2.2 = (T j).2.2.set c z) := by show _ = _; rw [HE.out]; simp only [addsAct, hcg, hxg, hog, hz]
            have HVT : Hid (seen[j] = z) := by
              refine Lib.hid ?_
              rw [HV.out, HE2.out]
              simp only [List.getD_eq_getElem?_getD]
              rw [List.getElem?_set_self lt1]
              rfl
            clear hxg hx hog hO hz HE hcg
            go_wp2_with fail
            refine (oHas_any e0 g0 L i (T j).1 wr (HO.out.rdAt 7 rfl) HLL.out (by omega) false (by simp [HMM.out])).mono ?_
            rintro e w6 ⟨rfl, rfl⟩
            go_wp2_with (at_builtin; refine app3s [_, _, _, _, _, _, _] [] (.tmp 89) (.tmp 91) rfl rfl w6.heap.size rfl rfl rfl HO.out rfl (by omega) (by omega) ?_)
            intro e1 g1 w7 ho7 hb7 hs7
            have q3 := ho7.getI 2 rfl lp
            have q5 := ho7.get64 6 rfl lt1
            have q2 := ho7.get64 1 rfl ly
            have f5 := ho7.free 6 rfl c
            rw [HCE.out] at q3
            rw [HOO.out] at q5
            rw [HX.out] at q2
            obtain ⟨ho8, hb8⟩ := Owns.stored (p := [_, _, _, _, _, _]) ho7 rfl c (.int .u64 (z.toNat : Int))
            have HO8 : Hid (Owns (w7.setCell ⟨b5, c, none⟩ (.int .u64 (z.toNat : Int))).drew w.heap.size [⟨24, s0, NW, d0, U XS⟩, ⟨24, some ⟨b2, 0, none⟩, N, d2, U YS⟩, ⟨3, some ⟨b3, 0, none⟩, N, d3, NI PL⟩, ⟨3, some ⟨b1, 0, none⟩, m, d1, NI calls⟩, ⟨24, some ⟨b4, 0, none⟩, m, d4, U seen⟩, ⟨24, s6, NW, d6, U (T m).2.2⟩, ⟨24, some ⟨b5, 0, none⟩, NW, d5, U (T (j + 1)).2.2⟩, ⟨3, e1, L + 1, g1, NI (T (j + 1)).1⟩]) := by
              refine Lib.hid ?_
              rw [HE1.out, HE2.out, NI_snoc, ← U_set]
              exact ho8.drew
            have HB8 : Hid (Below w.heap.size w (w7.setCell ⟨b5, c, none⟩ (.int .u64 (z.toNat : Int))).drew) := Lib.hid ((HB.out.trans (hb7.trans hb8)).drew)
            clear ho7 ho8 hb7 hb8 HO HB
            go_wp2
            go_still_tail 13, (by kernel_rfl)
            go_wp2
            generalize hwv : (w7.setCell ⟨b5, c, none⟩ (.int .u64 (z.toNat : Int))).drew = wv at HO8 HB8 ⊢
            clear hwv q2 q3 q5 f5
            have q2 := HO8.out.get64 4 rfl lo
            have q3 := HO8.out.getI 2 rfl lp
            have q5 := HO8.out.get64 6 rfl lt2
            have e5 : (T (j + 1)).2.2[c] = z := by simp only [HE2.out]; simp
            rw [HVT.out] at q2
            rw [HCE.out] at q3
            rw [e5] at q5
            have tr : ((z.toNat : Int) != (z.toNat : Int)) = false := by simp
            clear e5
            go_quiet (fail)
            go_wp2
            go_roundw
            case rel => exact ⟨j + 1, e1, g1, by omega, by go_num, by rw [HE1.out, List.length_append, HLL.out]; rfl, by rw [show (T (j + 1)).1.length = L + 1 by rw [HE1.out, List.length_append, HLL.out]; rfl]; exact HO8.out.drewN _, below_drewN HB8.out _⟩
            case measure => simp [intOf] <;> omega
        · have hjm : m = j := by omega
          subst hjm
          obtain ⟨w6, rfl⟩ : ∃ w6 : World, w6 = wr := ⟨_, rfl⟩
          have O6 := Lib.hid ho; have B6 := Lib.hid hb; have hz6 := hsz
          clear ho hb hsz
          go_wp2_with fail
          refine (sameWords_any s6 s5 d6 d5 NW NW (T m).2.2 (T m).2.2 w6 (O6.out.rdAt 5 rfl) (O6.out.rdAt 6 rfl) (HTW.out m (Nat.le_refl _)) (HTW.out m (Nat.le_refl _)) (by omega) (by omega) true (by simp)).mono ?_
          rintro e w7 ⟨rfl, hb⟩
          have O7 := Lib.hid (O6.out.mono hb (Nat.le_refl _)); have B7 := Lib.hid (Below.more B6.out hb hz6)
          have hz7 : w.heap.size ≤ w7.heap.size := B7.out.size
          clear hb O6 B6 hz6
          go_wp2
          go_ret
          exact ⟨rfl, B7.out⟩
end Go.Proofs.Ytjjmjjbeecmmlae
