/-
  The walk of FnOnceChangesChain: a chain of changes goes through just if it is called in its order.
-/
import Derived.Test.YtjjmjjbeecmmlaeOFns
import Derived.Test.YtjjmjjbeecmmlaeChanges
import Derived.Test.YtjjmjjbeecmmlaeFrame
namespace Go.Proofs.Ytjjmjjbeecmmlae
set_option linter.unusedVariables false
set_option linter.unusedSimpArgs false
open Go.RowKit

def chain (s : BitVec 64) : Nat → BitVec 64
  | 0 => s
  | k + 1 => chain s k + BitVec.ofNat 64 (k + 1)
theorem chain_add (s : BitVec 64) (k : Nat) (hk : k ≤ 1048576) : IntKind.u64.wrap (((chain s k).toNat : Int) + ((k : Int) + 1)) = ((chain s (k + 1)).toNat : Int) := by
  have h : ((BitVec.ofNat 64 (k + 1)).toNat : Int) = (k : Int) + 1 := by rw [BitVec.toNat_ofNat, Nat.mod_eq_of_lt (by omega)]; simp
  rw [← h, u64_add]
  rfl

set_option maxHeartbeats 3200000 in
set_option maxRecDepth 100000 in
theorem fnOnceChangesChain_any (w : World) (x0 : BitVec 64) (a1 : Option Addr) (n1 c1 : Nat) (x1 : List (BitVec 64)) (k1 : Came w a1 n1 c1 (U x1)) (a2 : Option Addr) (n2 c2 : Nat) (x2 : List (BitVec 8)) (k2 : Came w a2 n2 c2 (U8 x2)) (bd : n1 + n2 ≤ 1048576) :
    Calls Try.prog 5 #[.int .u64 (x0.toNat : Int), .slice a1 n1 c1, .slice a2 n2 c2] w fun e w' => e = .returned (.bool true) ∧ Below w.heap.size w w' := by
  obtain ⟨i0, hi, hzz0, hzz1, hzz2⟩ := info_parts infoB
  have hnot : ∀ (x : Bool) (w : World), (Op.unary .not (.bool x)).run Try.prog w = .ok (.bool (!x)) w := fun _ _ => rfl
  have K1 := Lib.hid k1.u64; have K2 := Lib.hid k2.u8
  clear k1 k2
  obtain ⟨XS, hxs⟩ : ∃ XS, x1.take 12 = XS := ⟨_, rfl⟩
  obtain ⟨N, hN⟩ : ∃ N, XS.length = N := ⟨_, rfl⟩
  have bN : N ≤ 12 := by rw [← hN, ← hxs]; simp; omega
  have HXS := Lib.hid hxs; have HN := Lib.hid hN
  clear hxs hN
  obtain ⟨calls, hcalls⟩ : ∃ l, oCalls x2 N = l := ⟨_, rfl⟩
  obtain ⟨m, hm⟩ : ∃ m, calls.length = m := ⟨_, rfl⟩
  have bm : m ≤ 1048576 := by
    rw [← hm, ← hcalls]
    unfold oCalls
    split
    · simp
    · simp [K2.out.2.1]; omega
  have HC := Lib.hid hcalls; have HM := Lib.hid hm
  have HCN : Hid (∀ i ∈ calls, i < N) := by refine Lib.hid ?_; rw [← hcalls]; exact oCalls_lt
  clear hcalls hm
  obtain ⟨olds, holds⟩ : ∃ l, (List.range N).map (chain x0) = l := ⟨_, rfl⟩
  obtain ⟨news, hnews⟩ : ∃ l, (List.range N).map (fun k => chain x0 (k + 1)) = l := ⟨_, rfl⟩
  have HLO : Hid (olds.length = N) := by show _ = _; rw [← holds]; simp
  have HLN : Hid (news.length = N) := by show _ = _; rw [← hnews]; simp
  have HGO : Hid (∀ k (h : k < olds.length), olds[k] = chain x0 k) := by refine Lib.hid ?_; subst holds; intro k h; simp
  have HGN : Hid (∀ k (h : k < news.length), news[k] = chain x0 (k + 1)) := by refine Lib.hid ?_; subst hnews; intro k h; simp
  clear holds hnews
  obtain ⟨T, hT⟩ : ∃ T, onceAt (changesAct olds news) N false x0 calls = T := ⟨_, rfl⟩
  obtain ⟨outs, houts⟩ : ∃ o, onceOuts (changesAct olds news) N false x0 calls = o := ⟨_, rfl⟩
  have HT0 : Hid (T 0 = ([], List.replicate N false, x0)) := by show _ = _; rw [← hT]; rfl
  have HTS : Hid (∀ j i (h : j < calls.length), calls[j] = i → T (j + 1) = onceStep (changesAct olds news) (T j) i) := by refine Lib.hid fun j i h hi => ?_; rw [← hT]; exact onceAt_succ h hi
  have HTL : Hid (∀ j, (T j).2.1.length = N) := by refine Lib.hid fun j => ?_; rw [← hT]; exact onceAt_length
  have HTD : Hid (∀ j, (T j).1.length ≤ N) := by refine Lib.hid fun j => ?_; rw [← hT]; exact onceAt_short HCN.out
  have HOL : Hid (outs.length = m) := by show _ = _; rw [← houts, onceOuts_length, HM.out]
  have HOG : Hid (∀ j i (h : j < outs.length) (h' : j < calls.length), calls[j] = i → outs[j] = (T (j + 1)).2.1.getD i false) := by
    refine Lib.hid ?_
    subst houts
    intro j i h h' hi
    rw [← hT]
    exact onceOuts_get h h' hi
  have HTT := Lib.hid hT; have HOO := Lib.hid houts
  clear hT houts
  have t1 : ((m : Int) != (m : Int)) = false := by simp
  have O0 := Lib.hid (((Owns.nil w w.heap.size).made (Nat.le_refl _) 24 #[] (by simp)).made (by simp) 24 #[] (by simp))
  have B0 := Lib.hid (((Below.refl w.heap.size w).alloc (Nat.le_refl _) (.cells #[] 24)).alloc (by simp) (.cells #[] 24))
  have hz0 := Lib.hid B0.out.size
  go_enter Try.func5, Try.ntmps5
  go_wp2_with fail
  refine (oNumbers_any _ a1 n1 c1 N x1 XS (K1.out.1.mono B0.out (Nat.le_refl _)) K1.out.2.1 K1.out.2.2.1 K1.out.2.2.2 (by omega) HXS.out HN.out).mono ?_
  rintro e w1 ⟨s0, d0, rfl, ho, hb⟩
  have O1 := Lib.hid (O0.out.more hb ho hz0.out); have B1 := Lib.hid (Below.more B0.out hb hz0.out)
  clear ho hb O0 B0 hz0
  go_wp2
  go_loopw [25, 7, 8, 9] (fun i v u at_ wr => ∃ (k : Nat) (e0 e1 : Option Addr) (g0 g1 : Nat), k ≤ N ∧ i = .int .i64 k ∧ v = .slice e0 k g0 ∧ u = .slice e1 k g1 ∧ at_ = .int .u64 ((chain x0 k).toNat : Int) ∧ Owns wr w.heap.size [⟨24, e0, k, g0, U (olds.take k)⟩, ⟨24, e1, k, g1, U (news.take k)⟩] ∧ Below w.heap.size w wr) (fun i _ _ _ _ => N - (intOf i).toNat)
  case atStart => exact ⟨0, _, _, _, _, Nat.zero_le _, rfl, rfl, rfl, rfl, by simpa using (O1.out.drop (L' := [_, _]) (List.Sublist.cons_cons _ (List.Sublist.cons_cons _ (List.nil_sublist _)))), B1.out⟩
  case round =>
    clear O1 B1
    obtain ⟨k, e0, e1, g0, g1, hk, rfl, rfl, rfl, rfl, ho, hb⟩ := hrel
    have hsz := hb.size
    by_cases hlt : k < N
    · have lo : k < olds.length := by rw [HLO.out]; exact hlt
      have ln : k < news.length := by rw [HLN.out]; exact hlt
      have HTO : Hid (U (olds.take (k + 1)) = U (olds.take k) ++ [.int .u64 ((chain x0 k).toNat : Int)]) := by refine Lib.hid ?_; rw [List.take_succ_eq_append_getElem lo, U_snoc, HGO.out]
      have HTN : Hid (U (news.take (k + 1)) = U (news.take k) ++ [.int .u64 ((chain x0 (k + 1)).toNat : Int)]) := by refine Lib.hid ?_; rw [List.take_succ_eq_append_getElem ln, U_snoc, HGN.out]
      have hop := chain_add x0 k (by omega)
      have HCE : Hid (∃ y z, chain x0 k = y ∧ chain x0 (k + 1) = z) := Lib.hid ⟨_, _, rfl, rfl⟩
      obtain ⟨y, z, hy, hz⟩ := HCE.out
      rw [hy] at hop HTO ⊢
      rw [hz] at hop HTN
      have HZ := Lib.hid hz
      have HO := Lib.hid ho; have HB := Lib.hid hb
      clear ho hb hy hz HCE
      go_wp2_with (at_builtin; refine app30s [] [_] (.tmp 28) (.tmp 30) rfl rfl wr.heap.size rfl rfl rfl HO.out rfl (by omega) (by omega) ?_)
      intro e2 g2 w2 ho2 hb2 hs2
      have HO2 := Lib.hid ho2; have HB2 := Lib.hid (HB.out.trans hb2)
      clear ho2 hb2 HO HB
      go_wp2_with (at_builtin; refine app30s [_] [] (.tmp 37) (.tmp 39) rfl rfl w2.heap.size rfl rfl rfl HO2.out rfl (by omega) (by omega) ?_)
      intro e3 g3 w3 ho3 hb3 hs3
      have HR : Hid (Owns w3 w.heap.size [⟨24, e2, k + 1, g2, U (olds.take (k + 1))⟩, ⟨24, e3, k + 1, g3, U (news.take (k + 1))⟩]) := by
        refine Lib.hid ?_
        rw [HTO.out, HTN.out]
        exact ho3
      have HT := Lib.hid (HB2.out.trans hb3)
      clear ho3 hb3 HO2 HB2
      go_wp2
      go_roundw
      case rel => exact ⟨k + 1, e2, e3, g2, g3, by omega, by go_num, rfl, rfl, by rw [HZ.out], HR.out, HT.out⟩
      case measure => simp [intOf] <;> omega
    · have hkn : N = k := by omega
      subst hkn
      rw [List.take_of_length_le (by rw [HLO.out]; omega), List.take_of_length_le (by rw [HLN.out]; omega)] at ho
      obtain ⟨w1, rfl⟩ : ∃ w1 : World, w1 = wr := ⟨_, rfl⟩
      obtain ⟨s3, rfl⟩ : ∃ s, s = e0 := ⟨_, rfl⟩
      obtain ⟨s4, rfl⟩ : ∃ s, s = e1 := ⟨_, rfl⟩
      obtain ⟨d3, rfl⟩ : ∃ s, s = g0 := ⟨_, rfl⟩
      obtain ⟨d4, rfl⟩ : ∃ s, s = g1 := ⟨_, rfl⟩
      have O1 := Lib.hid ho; have B1 := Lib.hid hb; have hz1 := hsz
      clear ho hb hsz HGO HGN
      go_wp2_with fail
      refine (oCalls_any w1 a2 n2 c2 N m x2 calls (K2.out.1.mono B1.out (Nat.le_refl _)) K2.out.2.1 (by omega) HC.out HM.out (by omega)).mono ?_
      rintro e w2 ⟨s1, d1, rfl, ho, hb⟩
      have O2 := Lib.hid (O1.out.more hb ho hz1); have B2 := Lib.hid (Below.more B1.out hb hz1)
      have hz2 : w.heap.size ≤ w2.heap.size := B2.out.size
      clear ho hb O1 B1 hz1
      go_wp2_with fail
      refine (onceChanges_any w2 x0 s3 s4 s1 N d3 d4 m d1 olds news calls HLO.out (O2.out.rdAt 0 rfl) HLN.out (O2.out.rdAt 1 rfl) (by omega) HM.out bm (O2.out.rdAt 2 rfl) HCN.out outs (T m).2.2 HOO.out (by rw [HTT.out])).mono ?_
      rintro e w3 ⟨s2, d2, rfl, ho, hb⟩
      have O3 := Lib.hid (O2.out.more hb ho hz2); have B3 := Lib.hid (Below.more B2.out hb hz2)
      have hz3 : w.heap.size ≤ w3.heap.size := B3.out.size
      clear ho hb O2 B2 hz2
      have O4 := Lib.hid (O3.out.made hz3 3 #[] (by simp))
      have B4 := Lib.hid (B3.out.alloc hz3 (.cells #[] 3))
      clear O3 B3
      go_wp2_with (at_make; refine wpList_make_full _ rfl _ _ 34 rfl (w3.heap.size + 1) 4 i0 (.bool false) 1 Try.underlying34 hi hzz0 hzz1 .i64 .i64 _ _ N rfl rfl rfl rfl (by rw [hzz2]; omega) (by simp only [maxLen]; omega) (by simp) ?_)
      intro w5 ho5 hg5
      rw [made_bool] at ho5
      obtain ⟨hoA, hbA⟩ := O4.out.makes (b := w3.heap.size + 1) (by simp; omega) (by simp) ho5 hg5
      have O5 := Lib.hid hoA
      have B5 := Lib.hid (B4.out.trans (hbA.mono (by simp; omega)))
      obtain ⟨nb, hnb⟩ : ∃ nb, w3.heap.size + 1 = nb := ⟨_, rfl⟩
      rw [hnb] at O5 ⊢
      clear ho5 hg5 hoA hbA O4 B4 hz3 hnb hi hzz0 hzz1 hzz2
      go_wp2
      go_loopw [66, 14, 15] (fun i u v wr => ∃ (j : Nat) (e0 : Option Addr) (g0 : Nat), j ≤ m ∧ i = .int .i64 j ∧ u = .int .u64 ((T j).2.2.toNat : Int) ∧ v = .slice e0 (T j).1.length g0 ∧ Owns wr w.heap.size [⟨24, s3, N, d3, U olds⟩, ⟨24, s4, N, d4, U news⟩, ⟨3, s1, m, d1, NI calls⟩, ⟨4, s2, m, d2, BL outs⟩, ⟨3, e0, (T j).1.length, g0, NI (T j).1⟩, ⟨4, some ⟨nb, 0, none⟩, N, N, BL (T j).2.1⟩] ∧ Below w.heap.size w wr) (fun i _ _ _ => m - (intOf i).toNat)
      case atStart =>
        refine ⟨0, _, _, Nat.zero_le _, rfl, by rw [HT0.out], by rw [HT0.out]; rfl, ?_, B5.out⟩
        rw [HT0.out]
        exact O5.out
      case round =>
        clear O5 B5
        obtain ⟨j, e0, g0, hj, rfl, rfl, rfl, ho, hb⟩ := hrel
        have hsz := hb.size
        have hdl := HTD.out j
        by_cases hlt : j < m
        · have lj : j < calls.length := by rw [HM.out]; exact hlt
          have lo : j < outs.length := by rw [HOL.out]; exact hlt
          obtain ⟨i, hij⟩ : ∃ i, calls[j] = i := ⟨_, rfl⟩
          have hin : i < N := by rw [← hij]; exact HCN.out _ (List.getElem_mem lj)
          have lxo : i < olds.length := by rw [HLO.out]; exact hin
          have lxn : i < news.length := by rw [HLN.out]; exact hin
          have lt1 : i < (T j).2.1.length := by rw [HTL.out]; exact hin
          obtain ⟨b3, rfl⟩ := ho.addr 0 rfl (k := i) (by simpa using lxo)
          obtain ⟨b4, rfl⟩ := ho.addr 1 rfl (k := i) (by simpa using lxn)
          obtain ⟨b1, rfl⟩ := ho.addr 2 rfl (k := j) (by simpa using lj)
          obtain ⟨b2, rfl⟩ := ho.addr 3 rfl (k := j) (by simpa using lo)
          have q1 := ho.getI 2 rfl lj
          rw [hij] at q1
          have HST := Lib.hid (HTS.out j i lj hij)
          have HV := Lib.hid (HOG.out j i lo lj hij)
          obtain ⟨L, hL⟩ : ∃ L, (T j).1.length = L := ⟨_, rfl⟩
          rw [hL] at ho hdl ⊢
          have HLL := Lib.hid hL
          clear hij hL
          by_cases hmem : i ∈ (T j).1
          · have HE := Lib.hid (HST.out.trans (onceStep_old hmem))
            rw [HE.out] at HV
            have q2 := ho.getB 3 rfl (List.getElem?_eq_getElem lo)
            have q3 := ho.getB 5 rfl (List.getElem?_eq_getElem lt1)
            have e3 : (T j).2.1.getD i false = (T j).2.1[i] := by simp [lt1]
            rw [HV.out, e3] at q2
            obtain ⟨r, hr⟩ : ∃ r, (T j).2.1[i] = r := ⟨_, rfl⟩
            rw [hr] at q2 q3
            have tr : (r != r) = false := by simp
            have HMM := Lib.hid hmem
            have HO := Lib.hid ho; have HB := Lib.hid hb
            clear ho hb hmem hr e3
            go_wp2_with fail
            refine (oHas_any e0 g0 L i (T j).1 wr (HO.out.rdAt 4 rfl) HLL.out (by omega) true (by simp [HMM.out])).mono ?_
            rintro e w6 ⟨rfl, rfl⟩
            go_wp2
            go_quiet (fail)
            go_wp2
            go_roundw
            case rel => exact ⟨j + 1, e0, g0, by omega, by go_num, by rw [HE.out], by rw [HE.out, HLL.out], by rw [HE.out, HLL.out]; exact HO.out.drewN _, below_drewN HB.out _⟩
            case measure => simp [intOf] <;> omega
          · have HE := Lib.hid (HST.out.trans (onceStep_new hmem))
            have HMM := Lib.hid hmem
            have HO := Lib.hid ho; have HB := Lib.hid hb
            clear ho hb hmem
            obtain ⟨th, hth⟩ : ∃ t, (T j).2.2 = t := ⟨_, rfl⟩
            obtain ⟨x, hx⟩ : ∃ x, olds[i] = x := ⟨_, rfl⟩
            have hxg : olds.getD i 0 = x := by rw [← hx]; simp [lxo]
            obtain ⟨y, hy⟩ : ∃ y, news[i] = y := ⟨_, rfl⟩
            have hyg : news.getD i 0 = y := by rw [← hy]; simp [lxn]
            have HX := Lib.hid hx; have HY := Lib.hid hy
            rw [hth] at HE ⊢
            have HE1 : Hid ((T (j + 1)).1 = (T j).1 ++ [i]) := by show _ = _; rw [HE.out]
            have HE2 : Hid ((T (j + 1)).2.1 = (T j).2.1.set i (decide (th = x))) := by show _ = _; rw [HE.out]; simp only [changesAct, hxg]
            have HE3 : Hid ((T (j + 1)).2.2 = if th = x then y else th) := by show _ = _; rw [HE.out]; simp only [changesAct, hxg, hyg]
            have HVT : Hid (outs[j] = decide (th = x)) := by
              refine Lib.hid ?_
              rw [HV.out, HE2.out]
              simp only [List.getD_eq_getElem?_getD]
              rw [List.getElem?_set_self lt1]
              rfl
            clear hth hxg hx hy hyg HE
            by_cases htx : th = x
            · have HB1 : Hid (decide (th = x) = true) := by show _ = _; simp [htx]
              rw [HB1.out] at HE2 HVT
              rw [if_pos htx] at HE3
              subst htx
              have tt : ((th.toNat : Int) == (th.toNat : Int)) = true := by simp
              go_wp2_with fail
              refine (oHas_any e0 g0 L i (T j).1 wr (HO.out.rdAt 4 rfl) HLL.out (by omega) false (by simp [HMM.out])).mono ?_
              rintro e w6 ⟨rfl, rfl⟩
              go_wp2_with (at_builtin; refine app3s [_, _, _, _] [_] (.tmp 75) (.tmp 77) rfl rfl w6.heap.size rfl rfl rfl HO.out rfl (by omega) (by omega) ?_)
              intro e1 g1 w7 ho7 hb7 hs7
              have f3 := ho7.free 5 rfl i
              obtain ⟨u3, q3⟩ := ho7.has 5 rfl (k := i) (by simpa using lt1)
              have q0 := ho7.get64 0 rfl lxo
              rw [HX.out] at q0
              obtain ⟨ho8, hb8⟩ := Owns.stored (p := [_, _, _, _, _]) ho7 rfl i (.bool true)
              have HO8 : Hid (Owns (w7.setCell ⟨nb, i, none⟩ (.bool true)) w.heap.size [⟨24, some ⟨b3, 0, none⟩, N, d3, U olds⟩, ⟨24, some ⟨b4, 0, none⟩, N, d4, U news⟩, ⟨3, some ⟨b1, 0, none⟩, m, d1, NI calls⟩, ⟨4, some ⟨b2, 0, none⟩, m, d2, BL outs⟩, ⟨3, e1, L + 1, g1, NI (T (j + 1)).1⟩, ⟨4, some ⟨nb, 0, none⟩, N, N, BL (T (j + 1)).2.1⟩]) := by
                refine Lib.hid ?_
                rw [HE1.out, HE2.out, NI_snoc, ← BL_set]
                exact ho8
              have HB8 := Lib.hid (HB.out.trans (hb7.trans hb8))
              clear ho7 ho8 hb7 hb8 HO HB
              have lt2 : i < (T (j + 1)).2.1.length := by rw [HTL.out]; exact hin
              have q6 := HO8.out.getB 5 rfl (k := i) (v := true) (by rw [HE2.out, List.getElem?_set_self lt1])
              have q4 := HO8.out.get64 1 rfl lxn
              rw [HY.out] at q4
              go_wp2
              generalize hwv : w7.setCell ⟨nb, i, none⟩ (.bool true) = wv at *
              clear hwv q3 f3 q0 q6
              have q2 := HO8.out.getB 3 rfl (k := j) (v := true) (by rw [List.getElem?_eq_getElem lo, HVT.out])
              have q3 := HO8.out.getB 5 rfl (k := i) (v := true) (by rw [HE2.out, List.getElem?_set_self lt1])
              go_quiet (fail)
              go_wp2
              go_roundw
              case rel => exact ⟨j + 1, e1, g1, by omega, by go_num, by rw [HE3.out], by rw [HE1.out, List.length_append, HLL.out]; rfl, by rw [show (T (j + 1)).1.length = L + 1 by rw [HE1.out, List.length_append, HLL.out]; rfl]; exact HO8.out.drewN _, below_drewN HB8.out _⟩
              case measure => simp [intOf] <;> omega
            · have HB1 : Hid (decide (th = x) = false) := by show _ = _; simp [htx]
              rw [HB1.out] at HE2 HVT
              rw [if_neg htx] at HE3
              have tt : ((th.toNat : Int) == (x.toNat : Int)) = false := by
                rw [beq_eq_false_iff_ne, ne_eq, Int.natCast_inj]
                exact fun h => htx (BitVec.eq_of_toNat_eq h)
              clear htx
              go_wp2_with fail
              refine (oHas_any e0 g0 L i (T j).1 wr (HO.out.rdAt 4 rfl) HLL.out (by omega) false (by simp [HMM.out])).mono ?_
              rintro e w6 ⟨rfl, rfl⟩
              go_wp2_with (at_builtin; refine app3s [_, _, _, _] [_] (.tmp 75) (.tmp 77) rfl rfl w6.heap.size rfl rfl rfl HO.out rfl (by omega) (by omega) ?_)
              intro e1 g1 w7 ho7 hb7 hs7
              have f3 := ho7.free 5 rfl i
              obtain ⟨u3, q3⟩ := ho7.has 5 rfl (k := i) (by simpa using lt1)
              have q0 := ho7.get64 0 rfl lxo
              rw [HX.out] at q0
              obtain ⟨ho8, hb8⟩ := Owns.stored (p := [_, _, _, _, _]) ho7 rfl i (.bool false)
              have HO8 : Hid (Owns (w7.setCell ⟨nb, i, none⟩ (.bool false)) w.heap.size [⟨24, some ⟨b3, 0, none⟩, N, d3, U olds⟩, ⟨24, some ⟨b4, 0, none⟩, N, d4, U news⟩, ⟨3, some ⟨b1, 0, none⟩, m, d1, NI calls⟩, ⟨4, some ⟨b2, 0, none⟩, m, d2, BL outs⟩, ⟨3, e1, L + 1, g1, NI (T (j + 1)).1⟩, ⟨4, some ⟨nb, 0, none⟩, N, N, BL (T (j + 1)).2.1⟩]) := by
                refine Lib.hid ?_
                rw [HE1.out, HE2.out, NI_snoc, ← BL_set]
                exact ho8
              have HB8 := Lib.hid (HB.out.trans (hb7.trans hb8))
              clear ho7 ho8 hb7 hb8 HO HB
              have lt2 : i < (T (j + 1)).2.1.length := by rw [HTL.out]; exact hin
              have q6 := HO8.out.getB 5 rfl (k := i) (v := false) (by rw [HE2.out, List.getElem?_set_self lt1])
              go_wp2
              generalize hwv : w7.setCell ⟨nb, i, none⟩ (.bool false) = wv at *
              clear hwv q3 f3 q0 q6
              have q2 := HO8.out.getB 3 rfl (k := j) (v := false) (by rw [List.getElem?_eq_getElem lo, HVT.out])
              have q3 := HO8.out.getB 5 rfl (k := i) (v := false) (by rw [HE2.out, List.getElem?_set_self lt1])
              go_quiet (fail)
              go_wp2
              go_roundw
              case rel => exact ⟨j + 1, e1, g1, by omega, by go_num, by rw [HE3.out], by rw [HE1.out, List.length_append, HLL.out]; rfl, by rw [show (T (j + 1)).1.length = L + 1 by rw [HE1.out, List.length_append, HLL.out]; rfl]; exact HO8.out.drewN _, below_drewN HB8.out _⟩
              case measure => simp [intOf] <;> omega
        · have hjm : m = j := by omega
          subst hjm
          have tt : (((T m).2.2.toNat : Int) == ((T m).2.2.toNat : Int)) = true := by simp
          have HB := Lib.hid hb
          clear ho hb
          go_wp2
          go_ret
          exact ⟨rfl, HB.out⟩
end Go.Proofs.Ytjjmjjbeecmmlae
