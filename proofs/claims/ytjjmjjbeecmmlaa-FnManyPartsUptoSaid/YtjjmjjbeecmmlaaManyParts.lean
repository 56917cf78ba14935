/-
  The walk of FnManyParts: a script that is cut into parts returns the same.
-/
import Derived.Test.YtjjmjjbeecmmlaaSlices
import Derived.Test.YtjjmjjbeecmmlaaFrame
import Derived.Deep.RegionWith
namespace Go.Proofs.Ytjjmjjbeecmmlaa
set_option linter.unusedVariables false
set_option linter.unusedSimpArgs false
open Go.RowKit

theorem parts_run {st : List (BitVec 64)} {sc : List (Call 64)} {f t : Nat} (h : f ≤ t) (ht : t ≤ sc.length) :
    runL st (sc.take t) = ((runL st (sc.take f)).1 ++ (runL (runL st (sc.take f)).2 ((sc.drop f).take (t - f))).1, (runL (runL st (sc.take f)).2 ((sc.drop f).take (t - f))).2) := by
  have e : sc.take t = sc.take f ++ (sc.drop f).take (t - f) := by
    have := List.take_add (l := sc) (i := f) (j := t - f)
    rw [show f + (t - f) = t by omega] at this
    exact this
  rw [e, runL_append]

theorem parts_rows {w : World} {B : Nat} {p : List Row} {e : TypeId} {a b c d : Option Addr} {n f t ca cb cc cd : Nat} {A P S S' : List (BitVec 64)} {A' : List (BitVec 64)} (hA : A' = A ++ P) (hft : f ≤ t)
    (ho : Owns w B (p ++ [⟨e, a, n, ca, U S⟩, ⟨e, b, t, cb, U A ++ U P⟩, ⟨e, c, t - f, cc, U P⟩, ⟨e, d, n, cd, U S'⟩])) :
    Owns w B (p ++ [⟨e, d, n, cd, U S'⟩, ⟨e, b, t, cb, U A'⟩]) := by
  subst hA
  rw [← U_append] at ho
  refine (ho.drop (L' := p ++ [⟨e, b, t, cb, U (A ++ P)⟩, ⟨e, d, n, cd, U S'⟩]) ?_).perm ?_
  · refine (List.Sublist.refl p).append ?_
    exact .cons _ (.cons_cons _ (.cons _ (.refl _)))
  · exact (List.Perm.refl p).append (.swap _ _ _)

section
variable {sc : List (Call 64)} {f m : Nat}
theorem part_kinds : ((U8 (kindsOf sc)).drop f).take m = U8 (kindsOf ((sc.drop f).take m)) := by simp [U8, kindsOf, List.map_take, List.map_drop]
theorem part_cells : ((NI (cellsOf sc)).drop f).take m = NI (cellsOf ((sc.drop f).take m)) := by simp [NI, cellsOf, List.map_take, List.map_drop]
theorem part_as : ((U (asOf sc)).drop f).take m = U (asOf ((sc.drop f).take m)) := by simp [U, asOf, List.map_take, List.map_drop]
theorem part_bs : ((U (bsOf sc)).drop f).take m = U (bsOf ((sc.drop f).take m)) := by simp [U, bsOf, List.map_take, List.map_drop]
end

set_option maxHeartbeats 3200000 in
set_option maxRecDepth 100000 in
theorem fnManyParts_any (w : World) (a0 : Option Addr) (n0 c0 : Nat) (x0 : List (BitVec 64)) (k0 : Came w a0 n0 c0 (U x0)) (a1 : Option Addr) (n1 c1 : Nat) (x1 : List (BitVec 8)) (k1 : Came w a1 n1 c1 (U8 x1)) (a2 : Option Addr) (n2 c2 : Nat) (x2 : List (BitVec 64)) (k2 : Came w a2 n2 c2 (U x2)) (a3 : Option Addr) (n3 c3 : Nat) (x3 : List (BitVec 8)) (k3 : Came w a3 n3 c3 (U8 x3)) (bd : n0 + n1 + n2 + n3 ≤ 1048576) :
    Calls Try.prog 6 #[.slice a0 n0 c0, .slice a1 n1 c1, .slice a2 n2 c2, .slice a3 n3 c3] w fun e w' => e = .returned (.bool true) ∧ Below w.heap.size w w' := by
  have K0 := Lib.hid k0.u64; have K1 := Lib.hid k1.u8; have K2 := Lib.hid k2.u64; have K3 := Lib.hid k3.u8
  clear k0 k1 k2 k3
  obtain ⟨i0, hi, hzz0, hzz1, hzz2⟩ := info_parts info30
  by_cases h0 : n0 = 0
  · subst h0
    go_enter Try.func6, Try.ntmps6
    go_wp2
    go_ret
    exact ⟨rfl, Below.refl _ _⟩
  have t0 : ((n0 : Int) == 0) = false := by simp; omega
  have t1 : ((n0 : Int) != (n0 : Int)) = false := by simp
  have p0 : 0 < n0 := by omega
  obtain ⟨sc, hsc⟩ : ∃ sc, scriptOf x1 x2 n0 = sc := ⟨_, rfl⟩
  have HL : Hid (sc.length = n1) := by show _ = _; rw [← hsc, scriptOf_length, K1.out.2.1]
  have HC : Hid (∀ c ∈ sc, c.cell < n0) := by show ∀ c ∈ sc, _; rw [← hsc]; exact scriptOf_cell p0
  have HSC := Lib.hid hsc
  clear hsc
  have O0 := Lib.hid (Owns.nil w w.heap.size); have B0 := Lib.hid (Below.refl w.heap.size w)
  have hz0 : w.heap.size ≤ w.heap.size := Nat.le_refl _
  go_enter Try.func6, Try.ntmps6
  go_wp2_with fail
  refine (script_any w a1 a2 c1 c2 n0 n1 n2 x1 x2 sc HSC.out K1.out.2.1 K2.out.2.1 K1.out.1 K2.out.1 (by omega) p0 (by omega) (by omega)).mono ?_
  rintro e w1 ⟨s0, d0, s1, d1, s2, d2, s3, d3, rfl, ho, hb⟩
  have O1 := Lib.hid (O0.out.more hb ho hz0); have B1 := Lib.hid (Below.more B0.out hb hz0)
  have hz1 : w.heap.size ≤ w1.heap.size := B1.out.size
  clear ho hb O0 B0 hz0
  go_wp2_with fail
  refine (copied_any a0 c0 n0 x0 w1 (K0.out.1.mono B1.out (Nat.le_refl _)) K0.out.2.1 K0.out.2.2.2 (by omega)).mono ?_
  rintro e w2 ⟨s4, d4, rfl, ho, hb⟩
  have O2 := Lib.hid (O1.out.more hb ho hz1); have B2 := Lib.hid (Below.more B1.out hb hz1)
  have hz2 : w.heap.size ≤ w2.heap.size := B2.out.size
  clear ho hb O1 B1 hz1
  go_wp2_with fail
  refine (run64_any w2 s4 s0 s1 s2 s3 d4 d0 d1 d2 d3 n0 n1 x0 sc K0.out.2.1 HL.out (O2.out.rdAt 4 rfl) (O2.out.rdAt 0 rfl) (O2.out.rdAt 1 rfl) (O2.out.rdAt 2 rfl) (O2.out.rdAt 3 rfl) (by omega) (by omega) HC.out).mono ?_
  rintro e w3 ⟨s5, d5, s6, d6, rfl, ho, hb⟩
  have O3 := Lib.hid (O2.out.more hb ho hz2); have B3 := Lib.hid (Below.more B2.out hb hz2)
  have hz3 : w.heap.size ≤ w3.heap.size := B3.out.size
  clear ho hb O2 B2 hz2
  go_wp2_with fail
  refine (copied_any a0 c0 n0 x0 w3 (K0.out.1.mono B3.out (Nat.le_refl _)) K0.out.2.1 K0.out.2.2.2 (by omega)).mono ?_
  rintro e w4 ⟨s7, d7, rfl, ho, hb⟩
  have O4 := Lib.hid (O3.out.more hb ho hz3); have B4 := Lib.hid (Below.more B3.out hb hz3)
  have hz4 : w.heap.size ≤ w4.heap.size := B4.out.size
  clear ho hb O3 B3 hz3
  have hp := Lib.hid (O4.out.made hz4 30 #[] (by simp))
  have hbp := Lib.hid (B4.out.alloc hz4 (.cells #[] 30))
  have hcp0 := (O4.out.cap 0 rfl).1; have hcp1 := (O4.out.cap 1 rfl).1; have hcp2 := (O4.out.cap 2 rfl).1; have hcp3 := (O4.out.cap 3 rfl).1
  clear O4 B4
  go_wp2
  go_loopw [51, 15, 16, 17] (fun i v0 v1 v2 wr => ∃ (j f : Nat) (e0 e1 : Option Addr) (g0 g1 : Nat), j ≤ n3 + 1 ∧ f ≤ n1 ∧ (j = n3 + 1 → f = n1) ∧ i = .int .i64 j ∧ v0 = .slice e0 n0 g0 ∧ v1 = .slice e1 f g1 ∧ v2 = .int .i64 f ∧ Owns wr w.heap.size [⟨5, s0, n1, d0, U8 (kindsOf sc)⟩, ⟨3, s1, n1, d1, NI (cellsOf sc)⟩, ⟨30, s2, n1, d2, U (asOf sc)⟩, ⟨30, s3, n1, d3, U (bsOf sc)⟩, ⟨30, s4, n0, d4, U x0⟩, ⟨30, s5, n1, d5, U (runL x0 sc).1⟩, ⟨30, s6, n0, d6, U (runL x0 sc).2⟩, ⟨30, e0, n0, g0, U (runL x0 (sc.take f)).2⟩, ⟨30, e1, f, g1, U (runL x0 (sc.take f)).1⟩] ∧ Below w.heap.size w wr) (fun i _ _ _ _ => n3 + 1 - (intOf i).toNat)
  case atStart => exact ⟨0, 0, _, _, _, _, Nat.zero_le _, Nat.zero_le _, by omega, rfl, rfl, rfl, rfl, by simpa [runL] using hp.out, hbp.out⟩
  case round =>
    clear hp hbp hz4
    obtain ⟨j, f, e0, e1, g0, g1, hj, hf, hjf, rfl, rfl, rfl, rfl, ho, hb⟩ := hrel
    have hsz := hb.size
    by_cases hlt : j < n3 + 1
    · -- where the part ends
      obtain ⟨t, ht0, ht1, htl, htw⟩ : ∃ t, f ≤ t ∧ t ≤ n1 ∧ (j + 1 = n3 + 1 → t = n1) ∧ ((¬ j < n3 ∧ t = n1) ∨ ∃ c : BitVec 8, ∃ b o, j < n3 ∧ a3 = some ⟨b, o, none⟩ ∧ wr.cell? ⟨b, o + j, none⟩ = some (.int .u8 (c.toNat : Int)) ∧ t = (if f + c.toNat % 5 < n1 then f + c.toNat % 5 else n1)) := by
        by_cases hj3 : j < n3
        · have l3 : j < x3.length := by rw [K3.out.2.1]; exact hj3
          obtain ⟨b, o, ha, hc⟩ := at_u8 K3.out.1 hb (Nat.le_refl _) l3
          refine ⟨if f + x3[j].toNat % 5 < n1 then f + x3[j].toNat % 5 else n1, ?_, ?_, by omega, .inr ⟨_, b, o, hj3, ha, hc, rfl⟩⟩
          · split <;> omega
          · split <;> omega
        · exact ⟨n1, hf, Nat.le_refl _, fun _ => rfl, .inl ⟨hj3, rfl⟩⟩
      obtain ⟨A0, hs0, hr0⟩ := slice_part Try.underlying23 (fun _ => by kernel_rfl) s0 n1 d0 f t ht0 (by omega)
      obtain ⟨A1, hs1, hr1⟩ := slice_part Try.underlying24 (fun _ => by kernel_rfl) s1 n1 d1 f t ht0 (by omega)
      obtain ⟨A2, hs2, hr2⟩ := slice_part Try.underlying22 (fun _ => by kernel_rfl) s2 n1 d2 f t ht0 (by omega)
      obtain ⟨A3, hs3, hr3⟩ := slice_part Try.underlying22 (fun _ => by kernel_rfl) s3 n1 d3 f t ht0 (by omega)
      have HR0 := Lib.hid (part_kinds ▸ hr0 wr.drew _ (ho.drew.rdAt 0 rfl) (by simp [HL.out]; omega))
      have HR1 := Lib.hid (part_cells ▸ hr1 wr.drew _ (ho.drew.rdAt 1 rfl) (by simp [HL.out]; omega))
      have HR2 := Lib.hid (part_as ▸ hr2 wr.drew _ (ho.drew.rdAt 2 rfl) (by simp [HL.out]; omega))
      have HR3 := Lib.hid (part_bs ▸ hr3 wr.drew _ (ho.drew.rdAt 3 rfl) (by simp [HL.out]; omega))
      have HP := Lib.hid (parts_run (st := x0) (sc := sc) ht0 (by rw [HL.out]; exact ht1))
      have HJ := Lib.hid htl; have HF := Lib.hid hjf
      clear hr0 hr1 hr2 hr3 htl hjf
      have lst : Hid ((runL x0 (sc.take f)).2.length = n0) := by show _ = _; rw [runL_snd_length, K0.out.2.1]
      have lsc : Hid (((sc.drop f).take (t - f)).length = t - f) := by show _ = _; simp [HL.out]; omega
      have hcs : Hid (∀ c ∈ (sc.drop f).take (t - f), c.cell < n0) := fun c hc => HC.out c (List.mem_of_mem_drop (List.mem_of_mem_take hc))
      have HO := Lib.hid ho; have HB := Lib.hid hb
      clear ho hb
      have tf : (f : Int) ≤ (t : Int) := by omega
      rcases htw with ⟨hj3, htn⟩ | ⟨c, b, o, hj3, rfl, hcc, htc⟩
      · have dj : decide ((j : Int) < (n3 : Int)) = false := by simp; omega
        have htn' := htn.symm
        clear htn
        subst htn'
        go_wp2
        go_region_with (go_at_call 10; refine (run64_any _ e0 A0 A1 A2 A3 g0 _ _ _ _ n0 (n1 - f) (runL x0 (sc.take f)).2 ((sc.drop f).take (n1 - f)) lst.out lsc.out (by exact HO.out.drew.rdAt 7 rfl) (by exact HR0.out) (by exact HR1.out) (by exact HR2.out) (by exact HR3.out) (by omega) (by omega) hcs.out).mono ?_; rintro e w5 ⟨s8, d8, s9, d9, rfl, ho5, hb5⟩)
        have HO5 := Lib.hid (HO.out.drew.more hb5 ho5 hsz); have HB5 := Lib.hid (Below.more HB.out.drew hb5 hsz)
        have hs5 := HB5.out.size
        have HN5 := Lib.hid (HO5.out.cap 9 rfl).2.2
        clear ho5 hb5 HO HB
        go_wp2_with (at_builtin; refine wpList_append_at _ rfl (.tmp 97) (.tmp 98) 22 rfl 30 i0 (.int .u64 0) 8 Try.underlying22 hi hzz0 hzz1 hzz2 rfl (by decide) w.heap.size [_, _, _, _, _, _, _, _] [_, _] _ rfl rfl HO5.out s8 (n1 - f) d8 _ rfl (by rw [U_length, runL_fst_length, lsc.out]) HN5.out (HO5.out.rdAt 9 rfl) U_one (by simp; omega) hs5 ?_)
        intro e1' g1' w6 ho6 hb6
        have hT := Lib.hid (HB5.out.trans hb6)
        have hR := Lib.hid (parts_rows (p := [_, _, _, _, _, _, _]) (A' := (runL x0 (sc.take n1)).1) (by rw [HP.out]) ht0 ho6)
        have hR2 : Hid (Owns w6 w.heap.size [⟨5, s0, n1, d0, U8 (kindsOf sc)⟩, ⟨3, s1, n1, d1, NI (cellsOf sc)⟩, ⟨30, s2, n1, d2, U (asOf sc)⟩, ⟨30, s3, n1, d3, U (bsOf sc)⟩, ⟨30, s4, n0, d4, U x0⟩, ⟨30, s5, n1, d5, U (runL x0 sc).1⟩, ⟨30, s6, n0, d6, U (runL x0 sc).2⟩, ⟨30, s9, n0, d9, U (runL x0 (sc.take n1)).2⟩, ⟨30, e1', n1, g1', U (runL x0 (sc.take n1)).1⟩]) := by
          refine Lib.hid ?_
          have := hR.out
          rw [show (runL (runL x0 (sc.take f)).2 ((sc.drop f).take (n1 - f))).2 = (runL x0 (sc.take n1)).2 by rw [HP.out]] at this
          exact this
        clear ho6 hb6 HO5 HB5 hR
        go_wp2
        go_roundw
        case rel => exact ⟨j + 1, n1, s9, e1', d9, g1', by omega, ht1, (by first | exact HJ.out | (intro _; rfl)), by go_num, rfl, by first | rfl | (simp; omega), rfl, hR2.out, hT.out⟩
        case measure => simp [intOf]; omega
      · have dj : decide ((j : Int) < (n3 : Int)) = true := by simp; omega
        have bc := c.isLt
        by_cases hm : f + c.toNat % 5 < n1
        · rw [if_pos hm] at htc
          have te : ((f : Int) + (c.toNat : Int) % 5) = (t : Int) := by rw [htc]; simp
          have tlt : (t : Int) < (n1 : Int) := by omega
          clear htc hm
          go_wp2
          go_region_with (go_at_call 10; refine (run64_any _ e0 A0 A1 A2 A3 g0 _ _ _ _ n0 (t - f) (runL x0 (sc.take f)).2 ((sc.drop f).take (t - f)) lst.out lsc.out (by exact HO.out.drew.rdAt 7 rfl) (by exact HR0.out) (by exact HR1.out) (by exact HR2.out) (by exact HR3.out) (by omega) (by omega) hcs.out).mono ?_; rintro e w5 ⟨s8, d8, s9, d9, rfl, ho5, hb5⟩)
          have HO5 := Lib.hid (HO.out.drew.more hb5 ho5 hsz); have HB5 := Lib.hid (Below.more HB.out.drew hb5 hsz)
          have hs5 := HB5.out.size
          have HN5 := Lib.hid (HO5.out.cap 9 rfl).2.2
          clear ho5 hb5 HO HB
          go_wp2_with (at_builtin; refine wpList_append_at _ rfl (.tmp 97) (.tmp 98) 22 rfl 30 i0 (.int .u64 0) 8 Try.underlying22 hi hzz0 hzz1 hzz2 rfl (by decide) w.heap.size [_, _, _, _, _, _, _, _] [_, _] _ rfl rfl HO5.out s8 (t - f) d8 _ rfl (by rw [U_length, runL_fst_length, lsc.out]) HN5.out (HO5.out.rdAt 9 rfl) U_one (by simp; omega) hs5 ?_)
          intro e1' g1' w6 ho6 hb6
          have hT := Lib.hid (HB5.out.trans hb6)
          have hR := Lib.hid (parts_rows (p := [_, _, _, _, _, _, _]) (A' := (runL x0 (sc.take t)).1) (by rw [HP.out]) ht0 ho6)
          have hR2 : Hid (Owns w6 w.heap.size [⟨5, s0, n1, d0, U8 (kindsOf sc)⟩, ⟨3, s1, n1, d1, NI (cellsOf sc)⟩, ⟨30, s2, n1, d2, U (asOf sc)⟩, ⟨30, s3, n1, d3, U (bsOf sc)⟩, ⟨30, s4, n0, d4, U x0⟩, ⟨30, s5, n1, d5, U (runL x0 sc).1⟩, ⟨30, s6, n0, d6, U (runL x0 sc).2⟩, ⟨30, s9, n0, d9, U (runL x0 (sc.take t)).2⟩, ⟨30, e1', t, g1', U (runL x0 (sc.take t)).1⟩]) := by
            refine Lib.hid ?_
            have := hR.out
            rw [show (runL (runL x0 (sc.take f)).2 ((sc.drop f).take (t - f))).2 = (runL x0 (sc.take t)).2 by rw [HP.out]] at this
            exact this
          clear ho6 hb6 HO5 HB5 hR
          go_wp2
          go_roundw
          case rel => exact ⟨j + 1, t, s9, e1', d9, g1', by omega, ht1, (by first | exact HJ.out | (intro _; rfl)), by go_num, rfl, by first | rfl | (simp; omega), rfl, hR2.out, hT.out⟩
          case measure => simp [intOf]; omega
        · rw [if_neg hm] at htc
          have htn' := htc.symm
          clear htc
          subst htn'
          have te : ¬ ((f : Int) + (c.toNat : Int) % 5 < (n1 : Int)) := by omega
          clear hm
          go_wp2
          go_region_with (go_at_call 10; refine (run64_any _ e0 A0 A1 A2 A3 g0 _ _ _ _ n0 (n1 - f) (runL x0 (sc.take f)).2 ((sc.drop f).take (n1 - f)) lst.out lsc.out (by exact HO.out.drew.rdAt 7 rfl) (by exact HR0.out) (by exact HR1.out) (by exact HR2.out) (by exact HR3.out) (by omega) (by omega) hcs.out).mono ?_; rintro e w5 ⟨s8, d8, s9, d9, rfl, ho5, hb5⟩)
          have HO5 := Lib.hid (HO.out.drew.more hb5 ho5 hsz); have HB5 := Lib.hid (Below.more HB.out.drew hb5 hsz)
          have hs5 := HB5.out.size
          have HN5 := Lib.hid (HO5.out.cap 9 rfl).2.2
          clear ho5 hb5 HO HB
          go_wp2_with (at_builtin; refine wpList_append_at _ rfl (.tmp 97) (.tmp 98) 22 rfl 30 i0 (.int .u64 0) 8 Try.underlying22 hi hzz0 hzz1 hzz2 rfl (by decide) w.heap.size [_, _, _, _, _, _, _, _] [_, _] _ rfl rfl HO5.out s8 (n1 - f) d8 _ rfl (by rw [U_length, runL_fst_length, lsc.out]) HN5.out (HO5.out.rdAt 9 rfl) U_one (by simp; omega) hs5 ?_)
          intro e1' g1' w6 ho6 hb6
          have hT := Lib.hid (HB5.out.trans hb6)
          have hR := Lib.hid (parts_rows (p := [_, _, _, _, _, _, _]) (A' := (runL x0 (sc.take n1)).1) (by rw [HP.out]) ht0 ho6)
          have hR2 : Hid (Owns w6 w.heap.size [⟨5, s0, n1, d0, U8 (kindsOf sc)⟩, ⟨3, s1, n1, d1, NI (cellsOf sc)⟩, ⟨30, s2, n1, d2, U (asOf sc)⟩, ⟨30, s3, n1, d3, U (bsOf sc)⟩, ⟨30, s4, n0, d4, U x0⟩, ⟨30, s5, n1, d5, U (runL x0 sc).1⟩, ⟨30, s6, n0, d6, U (runL x0 sc).2⟩, ⟨30, s9, n0, d9, U (runL x0 (sc.take n1)).2⟩, ⟨30, e1', n1, g1', U (runL x0 (sc.take n1)).1⟩]) := by
            refine Lib.hid ?_
            have := hR.out
            rw [show (runL (runL x0 (sc.take f)).2 ((sc.drop f).take (n1 - f))).2 = (runL x0 (sc.take n1)).2 by rw [HP.out]] at this
            exact this
          clear ho6 hb6 HO5 HB5 hR
          go_wp2
          go_roundw
          case rel => exact ⟨j + 1, n1, s9, e1', d9, g1', by omega, ht1, (by first | exact HJ.out | (intro _; rfl)), by go_num, rfl, by first | rfl | (simp; omega), rfl, hR2.out, hT.out⟩
          case measure => simp [intOf]; omega
    · obtain rfl : j = n3 + 1 := by omega
      obtain rfl := hjf rfl
      rw [List.take_of_length_le (by rw [HL.out]; omega)] at ho
      obtain ⟨w4, rfl⟩ : ∃ w4 : World, w4 = wr := ⟨_, rfl⟩
      have O4 := Lib.hid ho; have B4 := Lib.hid hb; have hz4 := hsz
      clear ho hb hsz hjf
      go_wp2_with fail
      refine (sameWords_any e1 s5 g1 d5 f f (runL x0 sc).1 (runL x0 sc).1 w4 (O4.out.rdAt 8 rfl) (O4.out.rdAt 5 rfl) (by rw [runL_fst_length, HL.out]) (by rw [runL_fst_length, HL.out]) (by omega) (by omega) true (by simp)).mono ?_
      rintro e w5 ⟨rfl, hb⟩
      have O5 := Lib.hid (O4.out.mono hb (Nat.le_refl _)); have B5 := Lib.hid (Below.more B4.out hb hz4)
      have hz5 : w.heap.size ≤ w5.heap.size := B5.out.size
      clear hb O4 B4 hz4
      go_wp2_with fail
      refine (sameWords_any e0 s6 g0 d6 n0 n0 (runL x0 sc).2 (runL x0 sc).2 w5 (O5.out.rdAt 7 rfl) (O5.out.rdAt 6 rfl) (by rw [runL_snd_length, K0.out.2.1]) (by rw [runL_snd_length, K0.out.2.1]) (by omega) (by omega) true (by simp)).mono ?_
      rintro e w6 ⟨rfl, hb⟩
      have O6 := Lib.hid (O5.out.mono hb (Nat.le_refl _)); have B6 := Lib.hid (Below.more B5.out hb hz5)
      have hz6 : w.heap.size ≤ w6.heap.size := B6.out.size
      clear hb O5 B5 hz5
      go_wp2
      go_ret
      exact ⟨rfl, B6.out⟩
end Go.Proofs.Ytjjmjjbeecmmlaa
