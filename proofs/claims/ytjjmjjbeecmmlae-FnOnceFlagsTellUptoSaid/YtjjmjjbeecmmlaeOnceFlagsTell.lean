/-
  The walk of FnOnceFlagsTell: the word tells which actions have run, and what an action has found tells which ones ran before it.
-/
import Derived.Test.YtjjmjjbeecmmlaeTellPlain
import Derived.Test.YtjjmjjbeecmmlaeFrame
namespace Go.Proofs.Ytjjmjjbeecmmlae
set_option linter.unusedVariables false
set_option linter.unusedSimpArgs false
open Go.RowKit

set_option maxHeartbeats 6400000 in
set_option maxRecDepth 100000 in
theorem fnOnceFlagsTell_any (w : World) (y0 : Int) (b0 : -9223372036854775808 ≤ y0 ∧ y0 ≤ 9223372036854775807) (a1 : Option Addr) (n1 c1 : Nat) (x1 : List (BitVec 8)) (k1 : Came w a1 n1 c1 (U8 x1)) (bd : n1 ≤ 1048576) :
    Calls Try.prog 3 #[.int .i64 y0, .slice a1 n1 c1] w fun e w' => e = .returned (.bool true) ∧ Below w.heap.size w w' := by
  have hnot : ∀ (x : Bool) (w : World), (Op.unary .not (.bool x)).run Try.prog w = .ok (.bool (!x)) w := fun _ _ => rfl
  have K1 := Lib.hid k1.u8
  clear k1
  obtain ⟨u, hu, hand⟩ := i64_and y0
  obtain ⟨N, hN⟩ : ∃ N, 1 + u % 12 = N := ⟨_, rfl⟩
  have bN : 1 ≤ N ∧ N ≤ 12 := by omega
  have hNi : 1 + (u : Int) % 12 = (N : Int) := by rw [← hN]; simp
  clear b0 hN
  obtain ⟨calls, hcalls⟩ : ∃ l, oCalls x1 N = l := ⟨_, rfl⟩
  obtain ⟨m, hm⟩ : ∃ m, calls.length = m := ⟨_, rfl⟩
  have bm : m ≤ 1048576 := by
    rw [← hm, ← hcalls]
    unfold oCalls
    split
    · simp
    · simp [K1.out.2.1]; omega
  have HC := Lib.hid hcalls; have HM := Lib.hid hm
  have HCN : Hid (∀ i ∈ calls, i < N) := by refine Lib.hid ?_; rw [← hcalls]; exact oCalls_lt
  clear hcalls hm
  obtain ⟨MS, hMS⟩ : ∃ M, tellMasks N = M := ⟨_, rfl⟩
  have HML : Hid (MS.length = N) := by show _ = _; rw [← hMS]; simp [tellMasks]
  have HMG : Hid (∀ k (h : k < MS.length), MS[k] = tellMask k) := by refine Lib.hid ?_; subst hMS; intro k h; simp [tellMasks]
  obtain ⟨T, hT⟩ : ∃ T, onceAt (flagsAct MS) N 0 0 calls = T := ⟨_, rfl⟩
  obtain ⟨seen, hseen⟩ : ∃ l, (List.range m).map (fun j => (T (j + 1)).2.2) = l := ⟨_, rfl⟩
  have HSL : Hid (seen.length = m) := by show _ = _; rw [← hseen]; simp
  have HSG : Hid (∀ j (h : j < seen.length), seen[j] = (T (j + 1)).2.2) := by refine Lib.hid ?_; subst hseen; intro j h; simp
  obtain ⟨FO, hFO⟩ : ∃ l, (T m).2.1 = l := ⟨_, rfl⟩
  have HFL : Hid (FO.length = N) := by show _ = _; rw [← hFO, ← hT]; exact onceAt_length
  have HTELL : Hid (Tells N (T m)) := by refine Lib.hid ?_; rw [← hT, ← hMS]; exact tells_all (by omega) HCN.out m (by rw [HM.out]; omega)
  have HMEM : Hid (∀ x, x ∈ (T m).1 ↔ x ∈ calls) := by refine Lib.hid fun x => ?_; rw [← hT, ← HM.out]; exact onceAt_mem
  have HFB : Hid (∀ i k (h : i < FO.length), FO[i].getLsbD (5 * k) = fb (T m) i k) := by
    refine Lib.hid fun i k h => ?_
    unfold fb
    rw [hFO]
    simp [h]
  have HTT := Lib.hid hT; have HFF := Lib.hid hFO
  clear hT hseen hMS hFO
  have t1 : ((m : Int) != (m : Int)) = false := by simp
  have HBM : Hid (m ≤ 17592186043904) := by refine Lib.hid ?_; omega
  have t2 : ((N : Int) != (N : Int)) = false := by simp
  have O0 := Lib.hid ((Owns.nil w w.heap.size).made (Nat.le_refl _) 24 #[] (by simp))
  have B0 := Lib.hid ((Below.refl w.heap.size w).alloc (Nat.le_refl _) (.cells #[] 24))
  go_enter Try.func3, Try.ntmps3
  go_wp2
  go_loopw [21, 6] (fun i v wr => ∃ (k : Nat) (e0 : Option Addr) (g0 : Nat), k ≤ N ∧ i = .int .i64 k ∧ v = .slice e0 k g0 ∧ Owns wr w.heap.size [⟨24, e0, k, g0, U (MS.take k)⟩] ∧ Below w.heap.size w wr) (fun i _ _ => N - (intOf i).toNat)
  case atStart => exact ⟨0, _, _, Nat.zero_le _, rfl, rfl, O0.out, B0.out⟩
  case round =>
    clear O0 B0
    obtain ⟨k, e0, g0, hk, rfl, rfl, ho, hb⟩ := hrel
    have hsz := hb.size
    by_cases hlt : k < N
    · have lM : k < MS.length := by rw [HML.out]; exact hlt
      obtain ⟨q, hq0⟩ : ∃ q, 5 * k = q := ⟨_, rfl⟩
      have bq : q < 64 := by omega
      have hq : 5 * (k : Int) = (q : Int) := by omega
      have hp2 : (2 : Nat) ^ q < 2 ^ 64 := Nat.pow_lt_pow_right (by decide) bq
      have hbv : ((BitVec.ofNat 64 (2 ^ q)).toNat : Int) = 2 ^ q := by
        rw [BitVec.toNat_ofNat, Nat.mod_eq_of_lt hp2]
        simp
      have hsh : IntKind.u64.wrap (2 ^ q) = ((BitVec.ofNat 64 (2 ^ q)).toNat : Int) := by
        rw [hbv, IntKind.wrap_u64]
        have : ((2 ^ q : Nat) : Int) < ((2 ^ 64 : Nat) : Int) := Int.ofNat_lt.2 hp2
        have h0 : (0 : Int) ≤ 2 ^ q := Int.pow_nonneg (by decide)
        simp at this
        omega
      have HTK : Hid (U (MS.take (k + 1)) = U (MS.take k) ++ [.int .u64 ((BitVec.ofNat 64 (2 ^ q)).toNat : Int)]) := by
        refine Lib.hid ?_
        rw [List.take_succ_eq_append_getElem lM, U_snoc, HMG.out k lM]
        unfold tellMask
        rw [hq0]
      generalize (BitVec.ofNat 64 (2 ^ q)).toNat = z at hsh HTK
      have HO := Lib.hid ho; have HB := Lib.hid hb
      clear ho hb hq0 hp2 hbv
      go_wp2_with (at_builtin; refine app30s [] [] (.tmp 24) (.tmp 28) rfl rfl wr.heap.size rfl rfl rfl HO.out rfl (by omega) (by omega) ?_)
      intro e1 g1 w2 ho2 hb2 hs2
      have HO2 : Hid (Owns w2 w.heap.size [⟨24, e1, k + 1, g1, U (MS.take (k + 1))⟩]) := by
        refine Lib.hid ?_
        rw [HTK.out]
        exact ho2
      have HB2 := Lib.hid (HB.out.trans hb2)
      clear ho2 hb2 HO HB
      go_wp2
      go_roundw
      case rel => exact ⟨k + 1, e1, g1, by omega, by go_num, rfl, HO2.out, HB2.out⟩
      case measure => simp [intOf] <;> omega
    · have hkn : N = k := by omega
      subst hkn
      rw [List.take_of_length_le (by rw [HML.out]; omega)] at ho
      obtain ⟨s0, rfl⟩ : ∃ s, s = e0 := ⟨_, rfl⟩
      obtain ⟨d0, rfl⟩ : ∃ s, s = g0 := ⟨_, rfl⟩
      obtain ⟨w1, rfl⟩ : ∃ w1 : World, w1 = wr := ⟨_, rfl⟩
      have O1 := Lib.hid ho; have B1 := Lib.hid hb; have hz1 := hsz
      clear ho hb hsz
      go_wp2_with fail
      refine (oCalls_any w1 a1 n1 c1 N m x1 calls (K1.out.1.mono B1.out (Nat.le_refl _)) K1.out.2.1 (by omega) HC.out HM.out (by omega)).mono ?_
      rintro e w2 ⟨s1, d1, rfl, ho, hb⟩
      have O2 := Lib.hid (O1.out.more hb ho hz1); have B2 := Lib.hid (Below.more B1.out hb hz1)
      have hz2 : w.heap.size ≤ w2.heap.size := B2.out.size
      clear ho hb O1 B1 hz1
      go_wp2_with fail
      refine (onceFlags_any w2 s0 s1 N d0 m d1 MS calls HML.out (O2.out.rdAt 0 rfl) (by omega) HM.out bm (O2.out.rdAt 1 rfl) HCN.out T HTT.out seen FO HSL.out HSG.out HFF.out).mono ?_
      rintro e w3 ⟨s2, d2, s3, d3, rfl, ho, hb⟩
      have O3 := Lib.hid (O2.out.more hb ho hz2); have B3 := Lib.hid (Below.more B2.out hb hz2)
      have hz3 : w.heap.size ≤ w3.heap.size := B3.out.size
      clear ho hb O2 B2 hz2
      go_wp2
      go_loopw [52] (fun p wr => ∃ i : Nat, i ≤ N ∧ p = .int .i64 i ∧ Owns wr w.heap.size [⟨24, s0, N, d0, U MS⟩, ⟨3, s1, m, d1, NI calls⟩, ⟨24, s2, m, d2, U seen⟩, ⟨24, s3, N, d3, U FO⟩] ∧ Below w.heap.size w wr) (fun p _ => N - (intOf p).toNat)
      case atStart => exact ⟨0, Nat.zero_le _, rfl, O3.out, B3.out⟩
      case round =>
        clear O3 B3 hz3
        obtain ⟨i, hi, rfl, ho, hb⟩ := hrel
        by_cases hlt : i < N
        · have lM : i < MS.length := by rw [HML.out]; exact hlt
          have lF : i < FO.length := by rw [HFL.out]; exact hlt
          obtain ⟨bM, rfl⟩ := ho.addr 0 rfl (k := i) (by simpa using lM)
          obtain ⟨bF, rfl⟩ := ho.addr 3 rfl (k := i) (by simpa using lF)
          obtain ⟨hI, HI0⟩ : ∃ h, h = decide (i ∈ calls) := ⟨_, rfl⟩
          have HI := Lib.hid HI0
          clear HI0
          have tbb : (hI != hI) = false := by simp
          by_cases hm0 : 0 < m
          · obtain ⟨m1, hm1⟩ : ∃ m1, m1 + 1 = m := ⟨m - 1, by omega⟩
            have tm0 : (0 : Int) < (m : Int) := by omega
            have tm1 : (m : Int) - 1 = (m1 : Int) := by omega
            have ls : m1 < seen.length := by rw [HSL.out]; omega
            have hlm : m1 < m := by omega
            obtain ⟨bS, rfl⟩ := ho.addr 2 rfl (k := m1) (by simpa using ls)
            have q0 := ho.get64 0 rfl lM
            have q2 := ho.get64 2 rfl ls
            rw [HSG.out, hm1] at q2
            rw [HMG.out] at q0
            have tand := bits_and (T m).2.2 (tellMask i)
            have tb : ((((T m).2.2 &&& tellMask i).toNat : Int) != 0) = hI := by
              rw [tell_and _ (by omega), HTELL.out.word i hlt, HI.out]
              exact decide_eq_decide.2 (HMEM.out i)
            generalize ((T m).2.2 &&& tellMask i).toNat = z at tand tb
            generalize (T m).2.2.toNat = sv at tand q2
            generalize (tellMask i).toNat = mv at tand q0
            have HO := Lib.hid ho; have HB := Lib.hid hb
            clear ho hb hm1
            go_wp2
            go_quiet (fail)
            have HO4 := Lib.hid (HO.out.drewN nq); have HB4 := Lib.hid (below_drewN HB.out nq)
            generalize hwq : wr.drewN nq = wq at HO4 HB4 ⊢
            clear hwq HO HB q0 q2 tand tb tm1
            go_wp2_with fail
            refine (oHas_any s1 d1 m i calls wq (HO4.out.rdAt 1 rfl) HM.out (by omega) hI HI.out).mono ?_
            rintro e w6 ⟨rfl, rfl⟩
            go_wp2
            go_loopw [78] (fun p wr => ∃ k : Nat, k ≤ N ∧ p = .int .i64 k ∧ Owns wr w.heap.size [⟨24, some ⟨bM, 0, none⟩, N, d0, U MS⟩, ⟨3, s1, m, d1, NI calls⟩, ⟨24, some ⟨bS, 0, none⟩, m, d2, U seen⟩, ⟨24, some ⟨bF, 0, none⟩, N, d3, U FO⟩] ∧ Below w.heap.size w wr) (fun p _ => N - (intOf p).toNat)
            case atStart => exact ⟨0, Nat.zero_le _, rfl, HO4.out, HB4.out⟩
            case round =>
              clear HO4 HB4
              obtain ⟨k, hk, rfl, ho, hb⟩ := hrel
              by_cases hltk : k < N
              · have lMk : k < MS.length := by rw [HML.out]; exact hltk
                have lFk : k < FO.length := by rw [HFL.out]; exact hltk
                obtain ⟨hK, HK0⟩ : ∃ h, h = decide (k ∈ calls) := ⟨_, rfl⟩
                have HK := Lib.hid HK0
                have p0 := ho.get64 0 rfl lM
                have p1 := ho.get64 0 rfl lMk
                have p2 := ho.get64 3 rfl lF
                have p3 := ho.get64 3 rfl lFk
                rw [HMG.out] at p0 p1
                have ta := bits_and FO[i] (tellMask k)
                have tA := tell_and FO[i] (k := k) (by omega)
                rw [HFB.out] at tA
                have tc := bits_and FO[k] (tellMask i)
                have tC := tell_and FO[k] (k := i) (by omega)
                rw [HFB.out] at tC
                obtain ⟨bik, hbik⟩ : ∃ b, fb (T m) i k = b := ⟨_, rfl⟩
                obtain ⟨bki, hbki⟩ : ∃ b, fb (T m) k i = b := ⟨_, rfl⟩
                have HNONE : Hid (hI = false → bik = false) := by
                  refine Lib.hid fun h => ?_
                  rw [← hbik]
                  refine HTELL.out.none i k hlt hltk (fun hh => ?_)
                  rw [HI.out] at h
                  exact absurd ((HMEM.out i).1 hh) (by simpa using h)
                have HSELF : Hid (i = k → bik = false) := by
                  refine Lib.hid fun h => ?_
                  subst h
                  rw [← hbik]
                  exact HTELL.out.self i hlt
                have HJUST : Hid (hI = true → hK = true → ¬ i = k → bik = !bki) := by
                  refine Lib.hid fun h1 h2 h3 => ?_
                  rw [← hbik, ← hbki]
                  refine HTELL.out.just i k hlt hltk ((HMEM.out i).2 ?_) ((HMEM.out k).2 ?_) h3
                  · rw [HI.out] at h1; simpa using h1
                  · rw [HK.out] at h2; simpa using h2
                rw [hbik] at tA
                rw [hbki] at tC
                generalize (FO[i] &&& tellMask k).toNat = z1 at ta tA
                generalize (FO[k] &&& tellMask i).toNat = z2 at tc tC
                generalize FO[i].toNat = fi at ta p2
                obtain ⟨fk, hfk⟩ : ∃ x, FO[k].toNat = x := ⟨_, rfl⟩
                have HFK := Lib.hid hfk
                rw [hfk] at tc p3
                obtain ⟨mi, hmi⟩ : ∃ x, (tellMask i).toNat = x := ⟨_, rfl⟩
                have HMI := Lib.hid hmi
                rw [hmi] at tc p0
                generalize (tellMask k).toNat = mk at ta p1
                have HO5 := Lib.hid ho; have HB5 := Lib.hid hb
                clear ho hb HK0 hbik hbki hmi hfk
                go_wp2
                go_quiet (fail)
                have HO := Lib.hid (HO5.out.drewN nq); have HB := Lib.hid (below_drewN HB5.out nq)
                generalize hwq : wr.drewN nq = wq at HO HB ⊢
                clear hwq HO5 HB5 p0 p1 p2 p3 ta tA
                have p0 := HO.out.get64 0 rfl lM
                have p3 := HO.out.get64 3 rfl lFk
                rw [HMG.out] at p0
                rw [HMI.out] at p0
                rw [HFK.out] at p3
                by_cases hik : i = k
                · have hbf : bik = false := HSELF.out hik
                  subst hbf
                  subst hik
                  have te : ((i : Int) == (i : Int)) = true := by simp
                  have tne : ((i : Int) != (i : Int)) = false := by simp
                  clear HNONE HSELF HJUST p0 p3 tc tC
                  clear tbb
                  cases hI with
                  | true =>
                    go_wp2
                    go_quiet ((go_at_call 11; first | (with_reducible refine Calls.quiet_of_same (oHas_any s1 d1 m i calls _ ?_ HM.out HBM.out _ HI.out); (first | exact HO.out.rdAt 1 rfl | exact (HO.out.drewN _).rdAt 1 rfl | exact HO.out.drew.rdAt 1 rfl)) | (with_reducible refine Calls.quiet_of_same (oHas_any s1 d1 m k calls _ ?_ HM.out HBM.out _ HK.out); (first | exact HO.out.rdAt 1 rfl | exact (HO.out.drewN _).rdAt 1 rfl | exact HO.out.drew.rdAt 1 rfl))))
                    go_wp2
                    go_roundw
                    case rel => exact ⟨i + 1, by omega, by go_num, HO.out.drewN _, below_drewN HB.out _⟩
                    case measure => simp [intOf] <;> omega
                  | false =>
                    go_wp2
                    go_quiet ((go_at_call 11; first | (with_reducible refine Calls.quiet_of_same (oHas_any s1 d1 m i calls _ ?_ HM.out HBM.out _ HI.out); (first | exact HO.out.rdAt 1 rfl | exact (HO.out.drewN _).rdAt 1 rfl | exact HO.out.drew.rdAt 1 rfl)) | (with_reducible refine Calls.quiet_of_same (oHas_any s1 d1 m k calls _ ?_ HM.out HBM.out _ HK.out); (first | exact HO.out.rdAt 1 rfl | exact (HO.out.drewN _).rdAt 1 rfl | exact HO.out.drew.rdAt 1 rfl))))
                    go_wp2
                    go_roundw
                    case rel => exact ⟨i + 1, by omega, by go_num, HO.out.drewN _, below_drewN HB.out _⟩
                    case measure => simp [intOf] <;> omega
                · have te : ((i : Int) == (k : Int)) = false := by simp; omega
                  have tne : ((i : Int) != (k : Int)) = true := by simp; omega
                  have HIK := Lib.hid hik
                  clear hik
                  clear tbb
                  cases hI with
                  | true =>
                    cases hK with
                    | true =>
                      cases bki with
                      | true =>
                        have hb2 : bik = false := HJUST.out rfl rfl HIK.out
                        subst hb2
                        clear HJUST HNONE HSELF
                        go_wp2
                        go_quiet ((go_at_call 11; first | (with_reducible refine Calls.quiet_of_same (oHas_any s1 d1 m i calls _ ?_ HM.out HBM.out _ HI.out); (first | exact HO.out.rdAt 1 rfl | exact (HO.out.drewN _).rdAt 1 rfl | exact HO.out.drew.rdAt 1 rfl)) | (with_reducible refine Calls.quiet_of_same (oHas_any s1 d1 m k calls _ ?_ HM.out HBM.out _ HK.out); (first | exact HO.out.rdAt 1 rfl | exact (HO.out.drewN _).rdAt 1 rfl | exact HO.out.drew.rdAt 1 rfl))))
                        go_wp2
                        go_roundw
                        case rel => exact ⟨k + 1, by omega, by go_num, HO.out.drewN _, below_drewN HB.out _⟩
                        case measure => simp [intOf] <;> omega
                      | false =>
                        have hb2 : bik = true := HJUST.out rfl rfl HIK.out
                        subst hb2
                        clear HJUST HNONE HSELF
                        go_wp2
                        go_quiet ((go_at_call 11; first | (with_reducible refine Calls.quiet_of_same (oHas_any s1 d1 m i calls _ ?_ HM.out HBM.out _ HI.out); (first | exact HO.out.rdAt 1 rfl | exact (HO.out.drewN _).rdAt 1 rfl | exact HO.out.drew.rdAt 1 rfl)) | (with_reducible refine Calls.quiet_of_same (oHas_any s1 d1 m k calls _ ?_ HM.out HBM.out _ HK.out); (first | exact HO.out.rdAt 1 rfl | exact (HO.out.drewN _).rdAt 1 rfl | exact HO.out.drew.rdAt 1 rfl))))
                        go_wp2
                        go_roundw
                        case rel => exact ⟨k + 1, by omega, by go_num, HO.out.drewN _, below_drewN HB.out _⟩
                        case measure => simp [intOf] <;> omega
                    | false =>
                      clear HJUST HNONE HSELF
                      go_wp2
                      go_quiet ((go_at_call 11; first | (with_reducible refine Calls.quiet_of_same (oHas_any s1 d1 m i calls _ ?_ HM.out HBM.out _ HI.out); (first | exact HO.out.rdAt 1 rfl | exact (HO.out.drewN _).rdAt 1 rfl | exact HO.out.drew.rdAt 1 rfl)) | (with_reducible refine Calls.quiet_of_same (oHas_any s1 d1 m k calls _ ?_ HM.out HBM.out _ HK.out); (first | exact HO.out.rdAt 1 rfl | exact (HO.out.drewN _).rdAt 1 rfl | exact HO.out.drew.rdAt 1 rfl))))
                      go_wp2
                      go_roundw
                      case rel => exact ⟨k + 1, by omega, by go_num, HO.out.drewN _, below_drewN HB.out _⟩
                      case measure => simp [intOf] <;> omega
                  | false =>
                    have hb2 := HNONE.out rfl
                    subst hb2
                    clear HJUST HNONE HSELF
                    go_wp2
                    go_quiet ((go_at_call 11; first | (with_reducible refine Calls.quiet_of_same (oHas_any s1 d1 m i calls _ ?_ HM.out HBM.out _ HI.out); (first | exact HO.out.rdAt 1 rfl | exact (HO.out.drewN _).rdAt 1 rfl | exact HO.out.drew.rdAt 1 rfl)) | (with_reducible refine Calls.quiet_of_same (oHas_any s1 d1 m k calls _ ?_ HM.out HBM.out _ HK.out); (first | exact HO.out.rdAt 1 rfl | exact (HO.out.drewN _).rdAt 1 rfl | exact HO.out.drew.rdAt 1 rfl))))
                    go_wp2
                    go_roundw
                    case rel => exact ⟨k + 1, by omega, by go_num, HO.out.drewN _, below_drewN HB.out _⟩
                    case measure => simp [intOf] <;> omega
              · have HB := Lib.hid hb; have HOX := Lib.hid ho
                clear ho hb
                go_wp2
                go_roundw
                case rel => exact ⟨i + 1, by omega, by go_num, HOX.out, HB.out⟩
                case measure => simp [intOf] <;> omega
          · have tm0 : ¬ (0 : Int) < (m : Int) := by omega
            have hif : hI = false := by
              rw [HI.out]
              have : calls = [] := List.eq_nil_of_length_eq_zero (by rw [HM.out]; omega)
              rw [this]
              simp
            subst hif
            have HO := Lib.hid ho; have HB := Lib.hid hb
            clear ho hb
            go_wp2
            go_quiet (fail)
            have HO4 := Lib.hid (HO.out.drewN nq); have HB4 := Lib.hid (below_drewN HB.out nq)
            generalize hwq : wr.drewN nq = wq at HO4 HB4 ⊢
            clear hwq HO HB
            go_wp2_with fail
            refine (oHas_any s1 d1 m i calls wq (HO4.out.rdAt 1 rfl) HM.out (by omega) false HI.out).mono ?_
            rintro e w6 ⟨rfl, rfl⟩
            go_wp2
            go_loopw [78] (fun p wr => ∃ k : Nat, k ≤ N ∧ p = .int .i64 k ∧ Owns wr w.heap.size [⟨24, some ⟨bM, 0, none⟩, N, d0, U MS⟩, ⟨3, s1, m, d1, NI calls⟩, ⟨24, s2, m, d2, U seen⟩, ⟨24, some ⟨bF, 0, none⟩, N, d3, U FO⟩] ∧ Below w.heap.size w wr) (fun p _ => N - (intOf p).toNat)
            case atStart => exact ⟨0, Nat.zero_le _, rfl, HO4.out, HB4.out⟩
            case round =>
              clear HO4 HB4
              obtain ⟨k, hk, rfl, ho, hb⟩ := hrel
              by_cases hltk : k < N
              · have lMk : k < MS.length := by rw [HML.out]; exact hltk
                have lFk : k < FO.length := by rw [HFL.out]; exact hltk
                obtain ⟨hK, HK0⟩ : ∃ h, h = decide (k ∈ calls) := ⟨_, rfl⟩
                have HK := Lib.hid HK0
                have p0 := ho.get64 0 rfl lM
                have p1 := ho.get64 0 rfl lMk
                have p2 := ho.get64 3 rfl lF
                have p3 := ho.get64 3 rfl lFk
                rw [HMG.out] at p0 p1
                have ta := bits_and FO[i] (tellMask k)
                have tA := tell_and FO[i] (k := k) (by omega)
                rw [HFB.out] at tA
                have tc := bits_and FO[k] (tellMask i)
                have tC := tell_and FO[k] (k := i) (by omega)
                rw [HFB.out] at tC
                obtain ⟨bik, hbik⟩ : ∃ b, fb (T m) i k = b := ⟨_, rfl⟩
                obtain ⟨bki, hbki⟩ : ∃ b, fb (T m) k i = b := ⟨_, rfl⟩
                have HNONE : Hid (false = false → bik = false) := by
                  refine Lib.hid fun h => ?_
                  rw [← hbik]
                  refine HTELL.out.none i k hlt hltk (fun hh => ?_)
                  have h9 := HI.out
                  exact absurd ((HMEM.out i).1 hh) (by simpa using h9)
                have HSELF : Hid (i = k → bik = false) := by
                  refine Lib.hid fun h => ?_
                  subst h
                  rw [← hbik]
                  exact HTELL.out.self i hlt
                rw [hbik] at tA
                rw [hbki] at tC
                generalize (FO[i] &&& tellMask k).toNat = z1 at ta tA
                generalize (FO[k] &&& tellMask i).toNat = z2 at tc tC
                generalize FO[i].toNat = fi at ta p2
                obtain ⟨fk, hfk⟩ : ∃ x, FO[k].toNat = x := ⟨_, rfl⟩
                have HFK := Lib.hid hfk
                rw [hfk] at tc p3
                obtain ⟨mi, hmi⟩ : ∃ x, (tellMask i).toNat = x := ⟨_, rfl⟩
                have HMI := Lib.hid hmi
                rw [hmi] at tc p0
                generalize (tellMask k).toNat = mk at ta p1
                have HO5 := Lib.hid ho; have HB5 := Lib.hid hb
                clear ho hb HK0 hbik hbki hmi hfk
                go_wp2
                go_quiet (fail)
                have HO := Lib.hid (HO5.out.drewN nq); have HB := Lib.hid (below_drewN HB5.out nq)
                generalize hwq : wr.drewN nq = wq at HO HB ⊢
                clear hwq HO5 HB5 p0 p1 p2 p3 ta tA
                have p0 := HO.out.get64 0 rfl lM
                have p3 := HO.out.get64 3 rfl lFk
                rw [HMG.out] at p0
                rw [HMI.out] at p0
                rw [HFK.out] at p3
                by_cases hik : i = k
                · have hbf : bik = false := HSELF.out hik
                  subst hbf
                  subst hik
                  have te : ((i : Int) == (i : Int)) = true := by simp
                  have tne : ((i : Int) != (i : Int)) = false := by simp
                  clear HNONE HSELF p0 p3 tc tC
                  go_wp2
                  go_quiet ((go_at_call 11; first | (with_reducible refine Calls.quiet_of_same (oHas_any s1 d1 m i calls _ ?_ HM.out HBM.out _ HI.out); (first | exact HO.out.rdAt 1 rfl | exact (HO.out.drewN _).rdAt 1 rfl | exact HO.out.drew.rdAt 1 rfl)) | (with_reducible refine Calls.quiet_of_same (oHas_any s1 d1 m k calls _ ?_ HM.out HBM.out _ HK.out); (first | exact HO.out.rdAt 1 rfl | exact (HO.out.drewN _).rdAt 1 rfl | exact HO.out.drew.rdAt 1 rfl))))
                  go_wp2
                  go_roundw
                  case rel => exact ⟨i + 1, by omega, by go_num, HO.out.drewN _, below_drewN HB.out _⟩
                  case measure => simp [intOf] <;> omega
                · have te : ((i : Int) == (k : Int)) = false := by simp; omega
                  have tne : ((i : Int) != (k : Int)) = true := by simp; omega
                  have HIK := Lib.hid hik
                  clear hik
                  have hb2 : bik = false := HNONE.out (by trivial)
                  subst hb2
                  clear HNONE HSELF
                  go_wp2
                  go_quiet ((go_at_call 11; first | (with_reducible refine Calls.quiet_of_same (oHas_any s1 d1 m i calls _ ?_ HM.out HBM.out _ HI.out); (first | exact HO.out.rdAt 1 rfl | exact (HO.out.drewN _).rdAt 1 rfl | exact HO.out.drew.rdAt 1 rfl)) | (with_reducible refine Calls.quiet_of_same (oHas_any s1 d1 m k calls _ ?_ HM.out HBM.out _ HK.out); (first | exact HO.out.rdAt 1 rfl | exact (HO.out.drewN _).rdAt 1 rfl | exact HO.out.drew.rdAt 1 rfl))))
                  go_wp2
                  go_roundw
                  case rel => exact ⟨k + 1, by omega, by go_num, HO.out.drewN _, below_drewN HB.out _⟩
                  case measure => simp [intOf] <;> omega
              · have HB := Lib.hid hb; have HOX := Lib.hid ho
                clear ho hb
                go_wp2
                go_roundw
                case rel => exact ⟨i + 1, by omega, by go_num, HOX.out, HB.out⟩
                case measure => simp [intOf] <;> omega
        · have HB := Lib.hid hb
          clear ho hb
          go_wp2
          go_ret
          exact ⟨rfl, HB.out⟩
end Go.Proofs.Ytjjmjjbeecmmlae
