/-
  The walk of FnLock: compare-and-swap between 0 and 1 is a lock.
-/
import Derived.Test.YtjjmjjbeecmmlabGrow
import Derived.Test.YtjjmjjbeecmmlabApartPlain
import Derived.Test.YtjjmjjbeecmmlabFrame
namespace Go.Proofs.Ytjjmjjbeecmmlab
set_option linter.unusedVariables false
set_option linter.unusedSimpArgs false
open Go.RowKit

/-- A move: from q to the other one. -/
def lockCall (q : Nat) : Call 64 := ⟨4#8, 0, BitVec.ofNat 64 q, BitVec.ofNat 64 (1 - q)⟩
theorem lock_hit {z q : Nat} (h : z = q) : (lockCall q).step (BitVec.ofNat 64 z) = (1, BitVec.ofNat 64 (1 - q)) := by
  subst h
  simp [lockCall, Call.step]
theorem lock_miss {z q : Nat} (hz : z ≤ 1) (hq : q ≤ 1) (h : ¬ z = q) : (lockCall q).step (BitVec.ofNat 64 z) = (0, BitVec.ofNat 64 z) := by
  have : ¬ BitVec.ofNat 64 z = BitVec.ofNat 64 q := by
    intro e
    have := congrArg BitVec.toNat e
    simp at this
    omega
  simp [lockCall, Call.step, this]
theorem lock_next {st : List (BitVec 64)} {sc : List (Call 64)} {k z q : Nat} (hk : k < sc.length) (he : (runL st (sc.take k)).2 = [BitVec.ofNat 64 z]) (hq : sc[k] = lockCall q) :
    runL st (sc.take (k + 1)) = ((runL st (sc.take k)).1 ++ [((lockCall q).step (BitVec.ofNat 64 z)).1], [((lockCall q).step (BitVec.ofNat 64 z)).2]) := by
  rw [runL_take_succ hk, hq, he]
  rfl

theorem lock_perm {a b c d e : Row} : [a, b, c, d, e].Perm [e, a, b, c, d] := by
  have : [a, b, c, d, e] = [a, b, c, d] ++ [e] := rfl
  rw [this]
  exact List.perm_append_comm

set_option maxHeartbeats 1600000 in
set_option maxRecDepth 100000 in
theorem fnLock_any (w : World) (a0 : Option Addr) (n0 c0 : Nat) (x0 : List (BitVec 8)) (k0 : Came w a0 n0 c0 (U8 x0)) (x1 : Bool) (bd : n0 ≤ 1048576) :
    Calls Try.prog 7 #[.slice a0 n0 c0, .bool x1] w fun e w' => e = .returned (.bool true) ∧ Below w.heap.size w w' := by
  have K0 := Lib.hid k0.u8
  clear k0
  obtain ⟨sc, hsc⟩ : ∃ sc, x0.map (fun b => lockCall (b.toNat % 2)) = sc := ⟨_, rfl⟩
  have HL : Hid (sc.length = n0) := by show _ = _; rw [← hsc, List.length_map, K0.out.2.1]
  have HC : Hid (∀ c ∈ sc, c.cell < 1) := by
    refine Lib.hid fun c hc => ?_
    rw [← hsc] at hc
    obtain ⟨b, _, rfl⟩ := List.mem_map.1 hc
    exact Nat.zero_lt_one
  have HCG : Hid (∀ k (h : k < sc.length) (h2 : k < x0.length), sc[k] = lockCall (x0[k].toNat % 2)) := by refine Lib.hid ?_; subst hsc; intro k h h2; simp
  clear hsc
  have hp := Lib.hid ((((((Owns.nil w w.heap.size).made (Nat.le_refl _) 5 #[] (by simp)).made (by simp) 3 #[] (by simp)).made (by simp; omega) 28 #[] (by simp)).made (by simp; omega) 28 #[] (by simp)).made (by simp; omega) 28 #[] (by simp))
  have hbp := Lib.hid ((((((Below.refl w.heap.size w).alloc (Nat.le_refl _) (.cells #[] 5)).alloc (by simp) (.cells #[] 3)).alloc (by simp; omega) (.cells #[] 28)).alloc (by simp; omega) (.cells #[] 28)).alloc (by simp; omega) (.cells #[] 28))
  cases x1
  ·
    go_enter Try.func7, Try.ntmps7
    go_wp2
    go_loopw [25, 5, 6, 7, 8, 9, 10] (fun i v v0 v1 v2 v3 v4 wr => ∃ (k z : Nat) (e0 e1 e2 e3 e4 : Option Addr) (g0 g1 g2 g3 g4 : Nat), k ≤ n0 ∧ z ≤ 1 ∧ (runL [0#64] (sc.take k)).2 = [BitVec.ofNat 64 z] ∧ i = .int .i64 k ∧ v = .int .u64 (z : Int) ∧ v0 = .slice e0 k g0 ∧ v1 = .slice e1 k g1 ∧ v2 = .slice e2 k g2 ∧ v3 = .slice e3 k g3 ∧ v4 = .slice e4 k g4 ∧ Owns wr w.heap.size [⟨28, e4, k, g4, U (runL [0#64] (sc.take k)).1⟩, ⟨5, e0, k, g0, U8 (kindsOf (sc.take k))⟩, ⟨3, e1, k, g1, NI (cellsOf (sc.take k))⟩, ⟨28, e2, k, g2, U (asOf (sc.take k))⟩, ⟨28, e3, k, g3, U (bsOf (sc.take k))⟩] ∧ Below w.heap.size w wr) (fun i _ _ _ _ _ _ _ => n0 - (intOf i).toNat)
    case atStart => exact ⟨0, 0, _, _, _, _, _, _, _, _, _, _, Nat.zero_le _, by omega, rfl, rfl, rfl, rfl, rfl, rfl, rfl, rfl, by simpa [kindsOf, cellsOf, asOf, bsOf, runL] using (hp.out.perm lock_perm), hbp.out⟩
    case round =>
      clear hp hbp
      obtain ⟨k, z, e0, e1, e2, e3, e4, g0, g1, g2, g3, g4, hk, hz, hst, rfl, rfl, rfl, rfl, rfl, rfl, rfl, ho, hb⟩ := hrel
      have hsz := hb.size
      by_cases hlt : k < n0
      · have lx : k < x0.length := by rw [K0.out.2.1]; exact hlt
        have ls : k < sc.length := by rw [HL.out]; exact hlt
        obtain ⟨ba, oa, rfl, qa⟩ := at_u8 K0.out.1 hb (Nat.le_refl _) lx
        have HD := Lib.hid (HCG.out k ls lx)
        obtain ⟨x, hx⟩ : ∃ x, x0[k] = x := ⟨_, rfl⟩
        rw [hx] at qa HD
        obtain ⟨q, hq⟩ : ∃ q, x.toNat % 2 = q := ⟨_, rfl⟩
        have hqe : ((x.toNat : Int) % 2) = (q : Int) := by rw [← hq]; simp
        have bq : q ≤ 1 := by omega
        rw [hq] at HD
        have HNX := Lib.hid (lock_next ls hst HD.out)
        have hw : IntKind.u64.wrap (1 - (q : Int)) = 1 - (q : Int) := by rw [IntKind.wrap_u64]; omega
        have HA : Hid (Value.int .u64 (q : Int) = .int .u64 (((lockCall q).a.toNat : Nat) : Int)) := by refine Lib.hid ?_; simp [lockCall]; omega
        have HBB : Hid (Value.int .u64 (1 - (q : Int)) = .int .u64 (((lockCall q).b.toNat : Nat) : Int)) := by refine Lib.hid ?_; simp [lockCall]; omega
        have HO := Lib.hid ho; have HB := Lib.hid hb
        clear ho hb hx hq hst
        go_wp2_with (at_builtin; refine app5s [_] [_, _, _] (.tmp 32) (.tmp 33) rfl rfl wr.heap.size rfl rfl rfl HO.out rfl (by omega) (by omega) ?_)
        intro f0 j0 u1 ho1 hb1 hs1
        have HO1 := Lib.hid ho1; have HB1 := Lib.hid (HB.out.trans hb1)
        clear ho1 hb1 HO HB qa
        go_wp2_with (at_builtin; refine app3s [_, _] [_, _] (.tmp 35) (.tmp 36) rfl rfl u1.heap.size rfl rfl rfl HO1.out rfl (by omega) (by omega) ?_)
        intro f1 j1 u2 ho2 hb2 hs2
        have HO2 := Lib.hid ho2; have HB2 := Lib.hid (HB1.out.trans hb2)
        clear ho2 hb2 HO1 HB1
        go_wp2_with (at_builtin; refine app30s [_, _, _] [_] (.tmp 38) (.tmp 40) rfl rfl u2.heap.size rfl rfl rfl HO2.out rfl (by omega) (by omega) ?_)
        intro f2 j2 u3 ho3 hb3 hs3
        have HO3 := Lib.hid ho3; have HB3 := Lib.hid (HB2.out.trans hb3)
        clear ho3 hb3 HO2 HB2
        go_wp2_with (at_builtin; refine app30s [_, _, _, _] [] (.tmp 42) (.tmp 45) rfl rfl u3.heap.size rfl rfl rfl HO3.out rfl (by omega) (by omega) ?_)
        intro f3 j3 u4 ho4 hb4 hs4
        have hR := Lib.hid (rows_step (p := [_]) ls HD.out rfl rfl rfl HA.out HBB.out ho4)
        have HB4 := Lib.hid (HB3.out.trans hb4)
        clear ho4 hb4 HO3 HB3
        by_cases hzq : z = q
        · subst hzq
          have t1 : ((z : Int) == (z : Int)) = true := by simp
          rw [lock_hit rfl] at HNX
          go_wp2_with (at_builtin; refine app30s [] [_, _, _, _] (.tmp 52) (.tmp 53) rfl rfl u4.heap.size rfl rfl rfl hR.out rfl (by omega) (by omega) ?_)
          intro f4 j4 u5 ho5 hb5 hs5
          have HR5 : Hid (Owns u5 w.heap.size [⟨28, f4, k + 1, j4, U (runL [0#64] (sc.take (k + 1))).1⟩, ⟨5, f0, k + 1, j0, U8 (kindsOf (sc.take (k + 1)))⟩, ⟨3, f1, k + 1, j1, NI (cellsOf (sc.take (k + 1)))⟩, ⟨28, f2, k + 1, j2, U (asOf (sc.take (k + 1)))⟩, ⟨28, f3, k + 1, j3, U (bsOf (sc.take (k + 1)))⟩]) := by
            refine Lib.hid ?_
            rw [HNX.out, U_snoc]
            exact ho5
          have HB5 := Lib.hid (HB4.out.trans hb5)
          clear ho5 hb5 hR HB4
          go_wp2
          go_roundw
          case rel => exact ⟨k + 1, 1 - z, f0, f1, f2, f3, f4, j0, j1, j2, j3, j4, by omega, by omega, by rw [HNX.out], by go_num, by go_num, rfl, rfl, rfl, rfl, rfl, HR5.out, HB5.out⟩
          case measure => simp [intOf]; omega
        · have t1 : ((z : Int) == (q : Int)) = false := by rw [beq_eq_false_iff_ne]; omega
          rw [lock_miss hz bq hzq] at HNX
          go_wp2_with (at_builtin; refine app30s [] [_, _, _, _] (.tmp 55) (.tmp 56) rfl rfl u4.heap.size rfl rfl rfl hR.out rfl (by omega) (by omega) ?_)
          intro f4 j4 u5 ho5 hb5 hs5
          have HR5 : Hid (Owns u5 w.heap.size [⟨28, f4, k + 1, j4, U (runL [0#64] (sc.take (k + 1))).1⟩, ⟨5, f0, k + 1, j0, U8 (kindsOf (sc.take (k + 1)))⟩, ⟨3, f1, k + 1, j1, NI (cellsOf (sc.take (k + 1)))⟩, ⟨28, f2, k + 1, j2, U (asOf (sc.take (k + 1)))⟩, ⟨28, f3, k + 1, j3, U (bsOf (sc.take (k + 1)))⟩]) := by
            refine Lib.hid ?_
            rw [HNX.out, U_snoc]
            exact ho5
          have HB5 := Lib.hid (HB4.out.trans hb5)
          clear ho5 hb5 hR HB4
          go_wp2
          go_roundw
          case rel => exact ⟨k + 1, z, f0, f1, f2, f3, f4, j0, j1, j2, j3, j4, by omega, hz, by rw [HNX.out], by go_num, rfl, rfl, rfl, rfl, rfl, rfl, HR5.out, HB5.out⟩
          case measure => simp [intOf]; omega
      · rw [List.take_of_length_le (by rw [HL.out]; omega)] at ho hst
        have hkn : n0 = k := by omega
        subst hkn
        have HST := Lib.hid hst
        obtain ⟨w1, rfl⟩ : ∃ w1 : World, w1 = wr := ⟨_, rfl⟩
        have O1 := Lib.hid ho; have B1 := Lib.hid hb; have hz1 := hsz
        clear ho hb hsz hst
        have O2 := Lib.hid (O1.out.made hz1 28 #[.int .u64 0] (by simp [maxLen])); have B2 := Lib.hid (B1.out.alloc hz1 (.cells #[.int .u64 0] 28))
        have hz2 := Lib.hid B2.out.size
        clear O1 B1 hz1
        go_wp2_with fail
        refine (run64_any _ (some ⟨w1.heap.size, 0, none⟩) e0 e1 e2 e3 1 g0 g1 g2 g3 1 n0 [0#64] sc rfl HL.out (O2.out.rdAt 5 rfl) (O2.out.rdAt 1 rfl) (O2.out.rdAt 2 rfl) (O2.out.rdAt 3 rfl) (O2.out.rdAt 4 rfl) (by omega) (by omega) HC.out).mono ?_
        rintro e w3 ⟨s1, d1, s2, d2, rfl, ho, hb⟩
        have O3 := Lib.hid (O2.out.more hb ho hz2); have B3 := Lib.hid (Below.more B2.out hb hz2)
        have hz3 : w.heap.size ≤ w3.heap.size := B3.out.size
        clear ho hb O2 B2 hz2
        go_wp2_with fail
        refine (sameWords_any s1 e4 d1 g4 n0 n0 (runL [0#64] sc).1 (runL [0#64] sc).1 w3 (O3.out.rdAt 6 rfl) (O3.out.rdAt 0 rfl) (by rw [runL_fst_length, HL.out]) (by rw [runL_fst_length, HL.out]) (by omega) (by omega) true (by simp)).mono ?_
        rintro e w4 ⟨rfl, hb⟩
        have O4 := Lib.hid (O3.out.mono hb (Nat.le_refl _)); have B4 := Lib.hid (Below.more B3.out hb hz3)
        have hz4 : w.heap.size ≤ w4.heap.size := B4.out.size
        clear hb O3 B3 hz3
        have O5 := Lib.hid (O4.out.made hz4 28 #[.int .u64 (z : Int)] (by simp [maxLen])); have B5 := Lib.hid (B4.out.alloc hz4 (.cells #[.int .u64 (z : Int)] 28))
        have hz5 := Lib.hid B5.out.size
        clear O4 B4 hz4
        have HZ5 : Hid ([Value.int .u64 (z : Int)] = U [BitVec.ofNat 64 z]) := by refine Lib.hid ?_; simp [U]; omega
        go_wp2_with fail
        refine (sameWords_any s2 (some ⟨w4.heap.size, 0, none⟩) d2 1 1 1 (runL [0#64] sc).2 [BitVec.ofNat 64 z] _ (O5.out.rdAt 7 rfl) (by have := O5.out.rdAt 8 rfl; rw [← HZ5.out]; exact this) (by rw [runL_snd_length]; rfl) rfl (by omega) (by omega) true (by rw [HST.out]; simp)).mono ?_
        rintro e w6 ⟨rfl, hb6⟩
        have B6 := Lib.hid (Below.more B5.out hb6 hz5.out)
        clear hb6
        go_wp2
        go_ret
        exact ⟨rfl, B6.out⟩
  ·
    go_enter Try.func7, Try.ntmps7
    go_wp2
    go_loopw [25, 5, 6, 7, 8, 9, 10] (fun i v v0 v1 v2 v3 v4 wr => ∃ (k z : Nat) (e0 e1 e2 e3 e4 : Option Addr) (g0 g1 g2 g3 g4 : Nat), k ≤ n0 ∧ z ≤ 1 ∧ (runL [1#64] (sc.take k)).2 = [BitVec.ofNat 64 z] ∧ i = .int .i64 k ∧ v = .int .u64 (z : Int) ∧ v0 = .slice e0 k g0 ∧ v1 = .slice e1 k g1 ∧ v2 = .slice e2 k g2 ∧ v3 = .slice e3 k g3 ∧ v4 = .slice e4 k g4 ∧ Owns wr w.heap.size [⟨28, e4, k, g4, U (runL [1#64] (sc.take k)).1⟩, ⟨5, e0, k, g0, U8 (kindsOf (sc.take k))⟩, ⟨3, e1, k, g1, NI (cellsOf (sc.take k))⟩, ⟨28, e2, k, g2, U (asOf (sc.take k))⟩, ⟨28, e3, k, g3, U (bsOf (sc.take k))⟩] ∧ Below w.heap.size w wr) (fun i _ _ _ _ _ _ _ => n0 - (intOf i).toNat)
    case atStart => exact ⟨0, 1, _, _, _, _, _, _, _, _, _, _, Nat.zero_le _, by omega, rfl, rfl, rfl, rfl, rfl, rfl, rfl, rfl, by simpa [kindsOf, cellsOf, asOf, bsOf, runL] using (hp.out.perm lock_perm), hbp.out⟩
    case round =>
      clear hp hbp
      obtain ⟨k, z, e0, e1, e2, e3, e4, g0, g1, g2, g3, g4, hk, hz, hst, rfl, rfl, rfl, rfl, rfl, rfl, rfl, ho, hb⟩ := hrel
      have hsz := hb.size
      by_cases hlt : k < n0
      · have lx : k < x0.length := by rw [K0.out.2.1]; exact hlt
        have ls : k < sc.length := by rw [HL.out]; exact hlt
        obtain ⟨ba, oa, rfl, qa⟩ := at_u8 K0.out.1 hb (Nat.le_refl _) lx
        have HD := Lib.hid (HCG.out k ls lx)
        obtain ⟨x, hx⟩ : ∃ x, x0[k] = x := ⟨_, rfl⟩
        rw [hx] at qa HD
        obtain ⟨q, hq⟩ : ∃ q, x.toNat % 2 = q := ⟨_, rfl⟩
        have hqe : ((x.toNat : Int) % 2) = (q : Int) := by rw [← hq]; simp
        have bq : q ≤ 1 := by omega
        rw [hq] at HD
        have HNX := Lib.hid (lock_next ls hst HD.out)
        have hw : IntKind.u64.wrap (1 - (q : Int)) = 1 - (q : Int) := by rw [IntKind.wrap_u64]; omega
        have HA : Hid (Value.int .u64 (q : Int) = .int .u64 (((lockCall q).a.toNat : Nat) : Int)) := by refine Lib.hid ?_; simp [lockCall]; omega
        have HBB : Hid (Value.int .u64 (1 - (q : Int)) = .int .u64 (((lockCall q).b.toNat : Nat) : Int)) := by refine Lib.hid ?_; simp [lockCall]; omega
        have HO := Lib.hid ho; have HB := Lib.hid hb
        clear ho hb hx hq hst
        go_wp2_with (at_builtin; refine app5s [_] [_, _, _] (.tmp 32) (.tmp 33) rfl rfl wr.heap.size rfl rfl rfl HO.out rfl (by omega) (by omega) ?_)
        intro f0 j0 u1 ho1 hb1 hs1
        have HO1 := Lib.hid ho1; have HB1 := Lib.hid (HB.out.trans hb1)
        clear ho1 hb1 HO HB qa
        go_wp2_with (at_builtin; refine app3s [_, _] [_, _] (.tmp 35) (.tmp 36) rfl rfl u1.heap.size rfl rfl rfl HO1.out rfl (by omega) (by omega) ?_)
        intro f1 j1 u2 ho2 hb2 hs2
        have HO2 := Lib.hid ho2; have HB2 := Lib.hid (HB1.out.trans hb2)
        clear ho2 hb2 HO1 HB1
        go_wp2_with (at_builtin; refine app30s [_, _, _] [_] (.tmp 38) (.tmp 40) rfl rfl u2.heap.size rfl rfl rfl HO2.out rfl (by omega) (by omega) ?_)
        intro f2 j2 u3 ho3 hb3 hs3
        have HO3 := Lib.hid ho3; have HB3 := Lib.hid (HB2.out.trans hb3)
        clear ho3 hb3 HO2 HB2
        go_wp2_with (at_builtin; refine app30s [_, _, _, _] [] (.tmp 42) (.tmp 45) rfl rfl u3.heap.size rfl rfl rfl HO3.out rfl (by omega) (by omega) ?_)
        intro f3 j3 u4 ho4 hb4 hs4
        have hR := Lib.hid (rows_step (p := [_]) ls HD.out rfl rfl rfl HA.out HBB.out ho4)
        have HB4 := Lib.hid (HB3.out.trans hb4)
        clear ho4 hb4 HO3 HB3
        by_cases hzq : z = q
        · subst hzq
          have t1 : ((z : Int) == (z : Int)) = true := by simp
          rw [lock_hit rfl] at HNX
          go_wp2_with (at_builtin; refine app30s [] [_, _, _, _] (.tmp 52) (.tmp 53) rfl rfl u4.heap.size rfl rfl rfl hR.out rfl (by omega) (by omega) ?_)
          intro f4 j4 u5 ho5 hb5 hs5
          have HR5 : Hid (Owns u5 w.heap.size [⟨28, f4, k + 1, j4, U (runL [1#64] (sc.take (k + 1))).1⟩, ⟨5, f0, k + 1, j0, U8 (kindsOf (sc.take (k + 1)))⟩, ⟨3, f1, k + 1, j1, NI (cellsOf (sc.take (k + 1)))⟩, ⟨28, f2, k + 1, j2, U (asOf (sc.take (k + 1)))⟩, ⟨28, f3, k + 1, j3, U (bsOf (sc.take (k + 1)))⟩]) := by
            refine Lib.hid ?_
            rw [HNX.out, U_snoc]
            exact ho5
          have HB5 := Lib.hid (HB4.out.trans hb5)
          clear ho5 hb5 hR HB4
          go_wp2
          go_roundw
          case rel => exact ⟨k + 1, 1 - z, f0, f1, f2, f3, f4, j0, j1, j2, j3, j4, by omega, by omega, by rw [HNX.out], by go_num, by go_num, rfl, rfl, rfl, rfl, rfl, HR5.out, HB5.out⟩
          case measure => simp [intOf]; omega
        · have t1 : ((z : Int) == (q : Int)) = false := by rw [beq_eq_false_iff_ne]; omega
          rw [lock_miss hz bq hzq] at HNX
          go_wp2_with (at_builtin; refine app30s [] [_, _, _, _] (.tmp 55) (.tmp 56) rfl rfl u4.heap.size rfl rfl rfl hR.out rfl (by omega) (by omega) ?_)
          intro f4 j4 u5 ho5 hb5 hs5
          have HR5 : Hid (Owns u5 w.heap.size [⟨28, f4, k + 1, j4, U (runL [1#64] (sc.take (k + 1))).1⟩, ⟨5, f0, k + 1, j0, U8 (kindsOf (sc.take (k + 1)))⟩, ⟨3, f1, k + 1, j1, NI (cellsOf (sc.take (k + 1)))⟩, ⟨28, f2, k + 1, j2, U (asOf (sc.take (k + 1)))⟩, ⟨28, f3, k + 1, j3, U (bsOf (sc.take (k + 1)))⟩]) := by
            refine Lib.hid ?_
            rw [HNX.out, U_snoc]
            exact ho5
          have HB5 := Lib.hid (HB4.out.trans hb5)
          clear ho5 hb5 hR HB4
          go_wp2
          go_roundw
          case rel => exact ⟨k + 1, z, f0, f1, f2, f3, f4, j0, j1, j2, j3, j4, by omega, hz, by rw [HNX.out], by go_num, rfl, rfl, rfl, rfl, rfl, rfl, HR5.out, HB5.out⟩
          case measure => simp [intOf]; omega
      · rw [List.take_of_length_le (by rw [HL.out]; omega)] at ho hst
        have hkn : n0 = k := by omega
        subst hkn
        have HST := Lib.hid hst
        obtain ⟨w1, rfl⟩ : ∃ w1 : World, w1 = wr := ⟨_, rfl⟩
        have O1 := Lib.hid ho; have B1 := Lib.hid hb; have hz1 := hsz
        clear ho hb hsz hst
        have O2 := Lib.hid (O1.out.made hz1 28 #[.int .u64 1] (by simp [maxLen])); have B2 := Lib.hid (B1.out.alloc hz1 (.cells #[.int .u64 1] 28))
        have hz2 := Lib.hid B2.out.size
        clear O1 B1 hz1
        go_wp2_with fail
        refine (run64_any _ (some ⟨w1.heap.size, 0, none⟩) e0 e1 e2 e3 1 g0 g1 g2 g3 1 n0 [1#64] sc rfl HL.out (O2.out.rdAt 5 rfl) (O2.out.rdAt 1 rfl) (O2.out.rdAt 2 rfl) (O2.out.rdAt 3 rfl) (O2.out.rdAt 4 rfl) (by omega) (by omega) HC.out).mono ?_
        rintro e w3 ⟨s1, d1, s2, d2, rfl, ho, hb⟩
        have O3 := Lib.hid (O2.out.more hb ho hz2); have B3 := Lib.hid (Below.more B2.out hb hz2)
        have hz3 : w.heap.size ≤ w3.heap.size := B3.out.size
        clear ho hb O2 B2 hz2
        go_wp2_with fail
        refine (sameWords_any s1 e4 d1 g4 n0 n0 (runL [1#64] sc).1 (runL [1#64] sc).1 w3 (O3.out.rdAt 6 rfl) (O3.out.rdAt 0 rfl) (by rw [runL_fst_length, HL.out]) (by rw [runL_fst_length, HL.out]) (by omega) (by omega) true (by simp)).mono ?_
        rintro e w4 ⟨rfl, hb⟩
        have O4 := Lib.hid (O3.out.mono hb (Nat.le_refl _)); have B4 := Lib.hid (Below.more B3.out hb hz3)
        have hz4 : w.heap.size ≤ w4.heap.size := B4.out.size
        clear hb O3 B3 hz3
        have O5 := Lib.hid (O4.out.made hz4 28 #[.int .u64 (z : Int)] (by simp [maxLen])); have B5 := Lib.hid (B4.out.alloc hz4 (.cells #[.int .u64 (z : Int)] 28))
        have hz5 := Lib.hid B5.out.size
        clear O4 B4 hz4
        have HZ5 : Hid ([Value.int .u64 (z : Int)] = U [BitVec.ofNat 64 z]) := by refine Lib.hid ?_; simp [U]; omega
        go_wp2_with fail
        refine (sameWords_any s2 (some ⟨w4.heap.size, 0, none⟩) d2 1 1 1 (runL [1#64] sc).2 [BitVec.ofNat 64 z] _ (O5.out.rdAt 7 rfl) (by have := O5.out.rdAt 8 rfl; rw [← HZ5.out]; exact this) (by rw [runL_snd_length]; rfl) rfl (by omega) (by omega) true (by rw [HST.out]; simp)).mono ?_
        rintro e w6 ⟨rfl, hb6⟩
        have B6 := Lib.hid (Below.more B5.out hb6 hz5.out)
        clear hb6
        go_wp2
        go_ret
        exact ⟨rfl, B6.out⟩
end Go.Proofs.Ytjjmjjbeecmmlab
