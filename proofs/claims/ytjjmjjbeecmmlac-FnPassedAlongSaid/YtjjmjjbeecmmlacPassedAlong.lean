/-
  The walk of FnPassedAlong: a number that is swapped along the cells moves them by one.
-/
import Derived.Test.YtjjmjjbeecmmlacCall
import Derived.Test.YtjjmjjbeecmmlacGrow
import Derived.Test.YtjjmjjbeecmmlacSlices
import Derived.Test.YtjjmjjbeecmmlacRingPlain
import Derived.Test.YtjjmjjbeecmmlacFrame
namespace Go.Proofs.Ytjjmjjbeecmmlac
set_option linter.unusedVariables false
set_option linter.unusedSimpArgs false
open Go.RowKit

set_option maxHeartbeats 3200000 in
set_option maxRecDepth 100000 in
theorem fnPassedAlong_any (w : World) (a0 : Option Addr) (n0 c0 : Nat) (x0 : List (BitVec 64)) (k0 : Came w a0 n0 c0 (U x0)) (x1 : BitVec 64) (bd0 : n0 * 8 ≤ 140737488351232) :
    Calls Try.prog 5 #[.slice a0 n0 c0, .int .u64 (x1.toNat : Int)] w fun e w' => e = .returned (.bool true) ∧ Below w.heap.size w w' := by
  have K0 := Lib.hid k0.u64
  clear k0
  have hnot : ∀ (x : Bool) (w : World), (Op.unary .not (.bool x)).run Try.prog w = .ok (.bool (!x)) w := fun _ _ => rfl
  by_cases h0 : n0 = 0
  · subst h0
    go_enter Try.func5, Try.ntmps5
    go_wp2
    go_ret
    exact ⟨rfl, Below.refl _ _⟩
  have t0 : ((n0 : Int) == 0) = false := by simp; omega
  by_cases h12 : 12 < n0
  · go_enter Try.func5, Try.ntmps5
    go_wp2
    go_ret
    exact ⟨rfl, Below.refl _ _⟩
  have b12 : n0 ≤ 12 := by omega
  have p0 : 0 < n0 := by omega
  obtain ⟨L, hL⟩ : ∃ L, x1 :: x0 = L := ⟨_, rfl⟩
  have HLL : Hid (L.length = n0 + 1) := by show _ = _; rw [← hL, List.length_cons, K0.out.2.1]
  have HP0 : Hid (passed L 0 0 = x0) := by show _ = _; rw [← hL]; exact passed_first
  have HPN : Hid (passed L (n0 + 1) 0 = x0) := by show _ = _; rw [← hL, ← K0.out.2.1]; exact passed_last
  have HR0 : Hid (ring L 0 0 = x1) := by show _ = _; rw [ring_first (by rw [HLL.out]; omega), ← hL]; rfl
  have HRN : Hid (ring L (n0 + 1) 0 = x1) := by show _ = _; rw [← HLL.out, ring_last (by rw [HLL.out]; omega), ← hL]; rfl
  have HPL : Hid (∀ r c, (passed L r c).length = n0) := by refine Lib.hid fun r c => ?_; rw [passed_length, HLL.out]; omega
  clear hL
  have O0 := Lib.hid (Owns.nil w w.heap.size); have B0 := Lib.hid (Below.refl w.heap.size w)
  have hz0 : w.heap.size ≤ w.heap.size := Nat.le_refl _
  go_enter Try.func5, Try.ntmps5
  go_wp2_with fail
  refine (copied_any a0 c0 n0 x0 w K0.out.1 K0.out.2.1 K0.out.2.2.2 (by omega)).mono ?_
  rintro e w1 ⟨s0, d0, rfl, ho, hb⟩
  have O1 := Lib.hid (O0.out.more hb ho hz0); have B1 := Lib.hid (Below.more B0.out hb hz0)
  have hz1 : w.heap.size ≤ w1.heap.size := B1.out.size
  clear ho hb O0 B0 hz0
  go_wp2
  go_loopw [29, 6, 7] (fun i v u wr => ∃ (r : Nat) (e0 : Option Addr) (g0 : Nat), r ≤ n0 + 1 ∧ i = .int .i64 r ∧ v = .slice e0 n0 g0 ∧ u = .int .u64 ((ring L r 0).toNat : Int) ∧ Owns wr w.heap.size [⟨22, e0, n0, g0, U (passed L r 0)⟩] ∧ Below w.heap.size w wr) (fun i _ _ _ => n0 + 1 - (intOf i).toNat)
  case atStart => exact ⟨0, s0, d0, Nat.zero_le _, rfl, rfl, by rw [HR0.out], by rw [HP0.out]; exact O1.out, B1.out⟩
  case round =>
    clear O1 B1 hz1
    obtain ⟨r, e0, g0, hr, rfl, rfl, rfl, ho, hb⟩ := hrel
    have hsz := hb.size
    by_cases hlt : r < n0 + 1
    · have lr : r < L.length := by rw [HLL.out]; exact hlt
      obtain ⟨w1, rfl⟩ : ∃ w1 : World, w1 = wr := ⟨_, rfl⟩
      have O1 := Lib.hid ho; have B1 := Lib.hid hb; have hz1 := hsz
      clear ho hb hsz
      obtain ⟨y, hy⟩ : ∃ y, ring L r 0 = y := ⟨_, rfl⟩
      have HY := Lib.hid hy
      rw [hy]
      clear hy
      go_wp2_with fail
      refine (copied_any e0 g0 n0 (passed L r 0) w1 (O1.out.rdAt 0 rfl) (HPL.out r 0) (fun h => ((O1.out.cap 0 rfl).2.2 h).2) (by omega)).mono ?_
      rintro e w2 ⟨s1, d1, rfl, ho, hb⟩
      have O2 := Lib.hid (O1.out.more hb ho hz1); have B2 := Lib.hid (Below.more B1.out hb hz1)
      have hz2 : w.heap.size ≤ w2.heap.size := B2.out.size
      clear ho hb O1 B1 hz1
      go_wp2
      go_loopw [36, 6, 7] (fun i v u wr => ∃ (c : Nat) (e1 : Option Addr) (g1 : Nat), c ≤ n0 ∧ i = .int .i64 c ∧ v = .slice e1 n0 g1 ∧ u = .int .u64 ((ring L r c).toNat : Int) ∧ Owns wr w.heap.size [⟨22, s1, n0, d1, U (passed L r 0)⟩, ⟨22, e1, n0, g1, U (passed L r c)⟩] ∧ Below w.heap.size w wr) (fun i _ _ _ => n0 - (intOf i).toNat)
      case atStart => exact ⟨0, e0, g0, Nat.zero_le _, rfl, rfl, by rw [HY.out], O2.out.perm (List.Perm.swap _ _ _), B2.out⟩
      case round =>
        clear O2 B2 hz2
        obtain ⟨c, e1, g1, hc, rfl, rfl, rfl, ho, hb⟩ := hrel
        have hsz := hb.size
        by_cases hlc : c < n0
        · obtain ⟨w2, rfl⟩ : ∃ w2 : World, w2 = wr := ⟨_, rfl⟩
          have O2 := Lib.hid ho; have B2 := Lib.hid hb; have hz2 := hsz
          clear ho hb hsz
          have HG : Hid ((passed L r c).getD c 0 = ring L r (c + 1)) := by
            refine Lib.hid ?_
            rw [passed_getD (by rw [HLL.out]; omega), if_neg (by omega)]
          have HGB : Hid ((passed L r 0)[c]? = some (ring L r (c + 1))) := by
            refine Lib.hid ?_
            rw [List.getElem?_eq_getElem (by rw [HPL.out]; exact hlc), passed_get, if_neg (by omega)]
          have HST : Hid ((passed L r c).set c (ring L r c) = passed L r (c + 1)) := passed_set
          obtain ⟨v, hv⟩ : ∃ v, ring L r c = v := ⟨_, rfl⟩
          obtain ⟨o, hO⟩ : ∃ o, ring L r (c + 1) = o := ⟨_, rfl⟩
          rw [hv] at HST ⊢
          rw [hO] at HG HGB
          have HO := Lib.hid hO
          clear hv hO
          go_wp2_with fail
          refine (call_any w2 e1 g1 n0 (passed L r c) 3#8 c v 0 rfl rfl rfl rfl (HPL.out r c) (O2.out.rdAt 1 rfl) (fun h => ((O2.out.cap 1 rfl).2.2 h).2) (by omega) hlc o (passed L r (c + 1)) (by rw [Call.step3 _ _ rfl, HG.out]) (by rw [Call.step3 _ _ rfl, HG.out, ← HST.out])).mono ?_
          rintro e w3 ⟨e2, g2, rfl, ho, hb⟩
          have O3 := Lib.hid (O2.out.more hb ho hz2); have B3 := Lib.hid (Below.more B2.out hb hz2)
          have hz3 : w.heap.size ≤ w3.heap.size := B3.out.size
          clear ho hb O2 B2 hz2
          have lb : c < (passed L r 0).length := by rw [HPL.out]; exact hlc
          obtain ⟨b1, rfl⟩ := O3.out.addr 0 rfl (k := c) (by simpa using lb)
          have q1 := O3.out.get64 0 rfl lb
          have e1' : (passed L r 0)[c] = o := by have := HGB.out; rw [List.getElem?_eq_getElem lb] at this; exact Option.some.inj this
          rw [e1'] at q1
          have to : ((o.toNat : Int) != (o.toNat : Int)) = false := by simp
          have O4 := Lib.hid (O3.out.drop (L' := [⟨22, some ⟨b1, 0, none⟩, n0, d1, U (passed L r 0)⟩, ⟨22, e2, n0, g2, U (passed L r (c + 1))⟩]) (by repeat (first | exact List.nil_sublist _ | apply List.Sublist.cons_cons | apply List.Sublist.cons)))
          clear O3 e1' HG HGB HST
          go_wp2
          go_roundw
          case rel => exact ⟨c + 1, e2, g2, by omega, by go_num, rfl, by rw [HO.out], O4.out, B3.out⟩
          case measure => simp [intOf]; omega
        · have hcn : n0 = c := by omega
          subst hcn
          have HPA : Hid (passed L r n0 = passed L (r + 1) 0) := by
            refine Lib.hid ?_
            have := passed_all lr
            rw [HLL.out] at this
            exact this
          rw [HPA.out] at ho
          have HRT : Hid (ring L (r + 1) 0 = ring L r n0) := ring_turn lr (by rw [HLL.out])
          have l0 : 0 < (passed L (r + 1) 0).length := by rw [HPL.out]; exact p0
          have ln : n0 - 1 < (passed L r 0).length := by rw [HPL.out]; omega
          obtain ⟨b1, rfl⟩ := ho.addr 0 rfl (k := n0 - 1) (by simpa using ln)
          obtain ⟨b2, rfl⟩ := ho.addr 1 rfl (k := 0) (by simpa using l0)
          have q1 := ho.get64 0 rfl ln
          have q2 := ho.get64 1 rfl l0
          rw [passed_get, if_neg (by omega), show n0 - 1 + 1 = n0 by omega] at q1
          rw [passed_get, if_neg (by omega), ring_next lr, HY.out] at q2
          rw [← HRT.out] at q1 ⊢
          obtain ⟨z, hz⟩ : ∃ z, ring L (r + 1) 0 = z := ⟨_, rfl⟩
          rw [hz] at q1 ⊢
          have HZ := Lib.hid hz
          have cn : ((n0 : Int) - 1).toNat = n0 - 1 := by omega
          have ty : ((y.toNat : Int) != (y.toNat : Int)) = false := by simp
          have tz : ((z.toNat : Int) != (z.toNat : Int)) = false := by simp
          have HO := Lib.hid ho; have HB := Lib.hid hb
          clear ho hb hz
          obtain ⟨w5, rfl⟩ : ∃ w5 : World, w5 = wr := ⟨_, rfl⟩
          by_cases hr0 : r = 0
          · subst hr0
            go_wp2
            go_loopw [15] (fun i wr => ∃ j : Nat, j ≤ n0 ∧ i = .int .i64 j ∧ 1 ≤ j ∧ Owns wr w.heap.size [⟨22, some ⟨b1, 0, none⟩, n0, d1, U (passed L 0 0)⟩, ⟨22, some ⟨b2, 0, none⟩, n0, g1, U (passed L (0 + 1) 0)⟩] ∧ Below w.heap.size w wr) (fun i _ => n0 - (intOf i).toNat)
            case atStart => exact ⟨1, p0, rfl, Nat.le_refl _, HO.out, HB.out⟩
            case round =>
              clear HO HB q1 q2
              obtain ⟨j, hj, rfl, hj1, ho, hb⟩ := hrel
              by_cases hlj : j < n0
              · have l2 : j < (passed L (0 + 1) 0).length := by rw [HPL.out]; exact hlj
                have l1 : j - 1 < (passed L 0 0).length := by rw [HPL.out]; omega
                have q1 := ho.get64 0 rfl l1
                have q2 := ho.get64 1 rfl l2
                rw [passed_get, if_neg (by omega), show j - 1 + 1 = j by omega] at q1
                rw [passed_get, if_neg (by omega), ring_next lr] at q2
                obtain ⟨v, hv⟩ : ∃ v, ring L 0 j = v := ⟨_, rfl⟩
                rw [hv] at q1 q2
                have cj : ((j : Int) - 1).toNat = j - 1 := by omega
                have tv : ((v.toNat : Int) != (v.toNat : Int)) = false := by simp
                have HO := Lib.hid ho; have HB := Lib.hid hb
                clear ho hb hv
                go_wp2
                go_quiet (fail)
                go_wp2
                go_roundw
                case rel => exact ⟨j + 1, by omega, by go_num, by omega, HO.out.drewN _, below_drewN HB.out _⟩
                case measure => simp [intOf] <;> omega
              · have HO := Lib.hid (ho.drop (L' := [⟨22, some ⟨b2, 0, none⟩, n0, g1, U (passed L (0 + 1) 0)⟩]) (by repeat (first | exact List.nil_sublist _ | apply List.Sublist.cons_cons | apply List.Sublist.cons)))
                have HB := Lib.hid hb
                clear ho hb
                go_wp2
                go_roundw
                case rel => exact ⟨0 + 1, _, _, by omega, by go_num, rfl, by rw [HZ.out], HO.out, HB.out⟩
                case measure => simp [intOf] <;> omega
          · have tr : ((r : Int) == 0) = false := by rw [beq_eq_false_iff_ne]; omega
            go_wp2
            go_loopw [15] (fun i wr => ∃ j : Nat, j ≤ n0 ∧ i = .int .i64 j ∧ 1 ≤ j ∧ Owns wr w.heap.size [⟨22, some ⟨b1, 0, none⟩, n0, d1, U (passed L r 0)⟩, ⟨22, some ⟨b2, 0, none⟩, n0, g1, U (passed L (r + 1) 0)⟩] ∧ Below w.heap.size w wr) (fun i _ => n0 - (intOf i).toNat)
            case atStart => exact ⟨1, p0, rfl, Nat.le_refl _, HO.out, HB.out⟩
            case round =>
              clear HO HB q1 q2
              obtain ⟨j, hj, rfl, hj1, ho, hb⟩ := hrel
              by_cases hlj : j < n0
              · have l2 : j < (passed L (r + 1) 0).length := by rw [HPL.out]; exact hlj
                have l1 : j - 1 < (passed L r 0).length := by rw [HPL.out]; omega
                have q1 := ho.get64 0 rfl l1
                have q2 := ho.get64 1 rfl l2
                rw [passed_get, if_neg (by omega), show j - 1 + 1 = j by omega] at q1
                rw [passed_get, if_neg (by omega), ring_next lr] at q2
                obtain ⟨v, hv⟩ : ∃ v, ring L r j = v := ⟨_, rfl⟩
                rw [hv] at q1 q2
                have cj : ((j : Int) - 1).toNat = j - 1 := by omega
                have tv : ((v.toNat : Int) != (v.toNat : Int)) = false := by simp
                have HO := Lib.hid ho; have HB := Lib.hid hb
                clear ho hb hv
                go_wp2
                go_quiet (fail)
                go_wp2
                go_roundw
                case rel => exact ⟨j + 1, by omega, by go_num, by omega, HO.out.drewN _, below_drewN HB.out _⟩
                case measure => simp [intOf] <;> omega
              · have HO := Lib.hid (ho.drop (L' := [⟨22, some ⟨b2, 0, none⟩, n0, g1, U (passed L (r + 1) 0)⟩]) (by repeat (first | exact List.nil_sublist _ | apply List.Sublist.cons_cons | apply List.Sublist.cons)))
                have HB := Lib.hid hb
                clear ho hb
                go_wp2
                go_roundw
                case rel => exact ⟨r + 1, _, _, by omega, by go_num, rfl, by rw [HZ.out], HO.out, HB.out⟩
                case measure => simp [intOf] <;> omega
    · have hrn : r = n0 + 1 := by omega
      subst hrn
      rw [HPN.out] at ho
      rw [HRN.out]
      obtain ⟨w1, rfl⟩ : ∃ w1 : World, w1 = wr := ⟨_, rfl⟩
      have O1 := Lib.hid ho; have B1 := Lib.hid hb; have hz1 := hsz
      clear ho hb hsz
      have tx : ((x1.toNat : Int) == (x1.toNat : Int)) = true := by simp
      go_wp2_with fail
      refine (sameWords_any e0 a0 g0 c0 n0 n0 x0 x0 w1 (O1.out.rdAt 0 rfl) (K0.out.1.mono B1.out (Nat.le_refl _)) K0.out.2.1 K0.out.2.1 (by omega) (by omega) true (by simp)).mono ?_
      rintro e w2 ⟨rfl, hb⟩
      have O2 := Lib.hid (O1.out.mono hb (Nat.le_refl _)); have B2 := Lib.hid (Below.more B1.out hb hz1)
      have hz2 : w.heap.size ≤ w2.heap.size := B2.out.size
      clear hb O1 B1 hz1
      go_wp2
      go_ret
      exact ⟨rfl, B2.out⟩
end Go.Proofs.Ytjjmjjbeecmmlac
