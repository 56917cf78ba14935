/-
  The walk of FnOnceTreeSums: sums of own numbers give sums of values.
-/
import Derived.Test.YtjjmjjbeecmmladLaid
import Derived.Test.YtjjmjjbeecmmladFrame
namespace Go.Proofs.Ytjjmjjbeecmmlad
set_option linter.unusedVariables false
set_option linter.unusedSimpArgs false
open Go.RowKit

theorem val_add {ps : Nat → List Nat} {f g : Nat → BitVec 64} (hps : ∀ i, ∀ p ∈ ps i, p < i) : ∀ i, val ps (fun i => f i + g i) i = val ps f i + val ps g i := by
  intro i
  induction i using Nat.strongRecOn with
  | ind i ih =>
    rw [val_eq hps, val_eq hps, val_eq hps]
    have : ∀ (l : List Nat) (x y : BitVec 64), (∀ p ∈ l, p < i) → l.foldl (fun s p => s + val ps (fun i => f i + g i) p) (x + y) = l.foldl (fun s p => s + val ps f p) x + l.foldl (fun s p => s + val ps g p) y := by
      intro l
      induction l with
      | nil => intro x y _; rfl
      | cons p l ihl =>
        intro x y hl
        rw [List.foldl_cons, List.foldl_cons, List.foldl_cons, ih p (hl p (by simp)), ← ihl _ _ fun q hq => hl q (List.mem_cons_of_mem _ hq)]
        congr 1
        ac_rfl
    exact this _ _ _ (hps i)

theorem val_own {ps : Nat → List Nat} {f g : Nat → BitVec 64} {n : Nat} (hps : ∀ i, ∀ p ∈ ps i, p < i) (h : ∀ i, i < n → f i = g i) : ∀ i, i < n → val ps f i = val ps g i := by
  intro i
  induction i using Nat.strongRecOn with
  | ind i ih =>
    intro hi
    rw [val_eq hps, val_eq hps, h i hi]
    exact foldl_same (fun s p hp => by rw [ih p (hps i p hp) (by have := hps i p hp; omega)]) _

theorem getD_get {l : List (BitVec 64)} {i : Nat} (h : i < l.length) : l.getD i 0 = l[i] := by simp [h]

def otherOf (more : List (BitVec 64)) (i : Nat) : BitVec 64 := if i < more.length then more.getD i 0 else BitVec.ofNat 64 i

set_option maxHeartbeats 3200000 in
set_option maxRecDepth 100000 in
theorem fnOnceTreeSums_any (w : World) (a0 : Option Addr) (n0 c0 : Nat) (x0 : List (BitVec 8)) (k0 : Came w a0 n0 c0 (U8 x0)) (a1 : Option Addr) (n1 c1 : Nat) (x1 : List (BitVec 64)) (k1 : Came w a1 n1 c1 (U x1)) (a2 : Option Addr) (n2 c2 : Nat) (x2 : List (BitVec 64)) (k2 : Came w a2 n2 c2 (U x2)) (a3 : Option Addr) (n3 c3 : Nat) (x3 : List (BitVec 8)) (k3 : Came w a3 n3 c3 (U8 x3)) (bd : n0 + n1 + n2 + n3 ≤ 1048576) :
    Calls Try.prog 3 #[.slice a0 n0 c0, .slice a1 n1 c1, .slice a2 n2 c2, .slice a3 n3 c3] w fun e w' => e = .returned (.bool true) ∧ Below w.heap.size w w' := by
  have K0 := Lib.hid k0.u8; have K1 := Lib.hid k1.u64; have K2 := Lib.hid k2.u64; have K3 := Lib.hid k3.u8
  clear k0 k1 k2 k3
  obtain ⟨XS, hxs⟩ : ∃ XS, x1.take 12 = XS := ⟨_, rfl⟩
  obtain ⟨N, hN⟩ : ∃ N, XS.length = N := ⟨_, rfl⟩
  have bN : N ≤ 12 := by rw [← hN, ← hxs]; simp; omega
  obtain ⟨OT, hOT⟩ : ∃ OT, (List.range N).map (otherOf x2) = OT := ⟨_, rfl⟩
  obtain ⟨SM, hSM⟩ : ∃ SM, (List.range N).map (fun i => XS.getD i 0 + otherOf x2 i) = SM := ⟨_, rfl⟩
  obtain ⟨calls, hcalls⟩ : ∃ l, oCalls x3 N = l := ⟨_, rfl⟩
  obtain ⟨m, hm⟩ : ∃ m, calls.length = m := ⟨_, rfl⟩
  have bm : m ≤ 1048576 := by
    rw [← hm, ← hcalls]
    unfold oCalls
    split
    · simp
    · simp [K3.out.2.1]; omega
  have HXS := Lib.hid hxs; have HN := Lib.hid hN; have HC := Lib.hid hcalls; have HM := Lib.hid hm
  have HCN : Hid (∀ i ∈ calls, i < N) := by refine Lib.hid ?_; rw [← hcalls]; exact oCalls_lt
  have HLO : Hid (OT.length = N) := by show _ = _; rw [← hOT]; simp
  have HLS : Hid (SM.length = N) := by show _ = _; rw [← hSM]; simp
  have HO1 : Hid (∀ i (h : i < OT.length), OT[i] = otherOf x2 i) := by refine Lib.hid ?_; subst hOT; intro i h; simp
  have HS1 : Hid (∀ i (h : i < SM.length), SM[i] = XS.getD i 0 + otherOf x2 i) := by refine Lib.hid ?_; subst hSM; intro i h; simp
  have HV : Hid (∀ i ∈ calls, val (parOf x0) (fun i => SM.getD i 0) i = val (parOf x0) (fun i => XS.getD i 0) i + val (parOf x0) (fun i => OT.getD i 0) i) := by
    refine Lib.hid fun i h => ?_
    rw [← val_add fun i p hp => parOf_less p hp]
    refine val_own (n := N) (fun i p hp => parOf_less p hp) (fun i hi => ?_) _ (HCN.out _ h)
    rw [getD_get (by rw [HLS.out]; exact hi), HS1.out, getD_get (l := OT) (by rw [HLO.out]; exact hi), HO1.out]
  clear hxs hN hcalls hm hOT hSM
  have O0 := Lib.hid (Owns.nil w w.heap.size); have B0 := Lib.hid (Below.refl w.heap.size w)
  have hz0 : w.heap.size ≤ w.heap.size := Nat.le_refl _
  go_enter Try.func3, Try.ntmps3
  go_wp2_with fail
  refine (oNumbers_any w a1 n1 c1 N x1 XS K1.out.1 K1.out.2.1 K1.out.2.2.1 K1.out.2.2.2 (by omega) HXS.out HN.out).mono ?_
  rintro e w1 ⟨s0, d0, rfl, ho, hb⟩
  have O1 := Lib.hid (O0.out.more hb ho hz0); have B1 := Lib.hid (Below.more B0.out hb hz0)
  have hz1 : w.heap.size ≤ w1.heap.size := B1.out.size
  clear ho hb O0 B0 hz0
  have hp := Lib.hid ((O1.out.made hz1 25 #[] (by simp)).made (by simp; omega) 25 #[] (by simp))
  have hbp := Lib.hid ((B1.out.alloc hz1 (.cells #[] 25)).alloc (by simp; omega) (.cells #[] 25))
  clear O1 B1
  go_wp2
  go_loopw [33, 10, 11] (fun i v u wr => ∃ (k : Nat) (e0 e1 : Option Addr) (g0 g1 : Nat), k ≤ N ∧ i = .int .i64 k ∧ v = .slice e0 k g0 ∧ u = .slice e1 k g1 ∧ Owns wr w.heap.size [⟨25, s0, N, d0, U XS⟩, ⟨25, e0, k, g0, U (OT.take k)⟩, ⟨25, e1, k, g1, U (SM.take k)⟩] ∧ Below w.heap.size w wr) (fun i _ _ _ => N - (intOf i).toNat)
  case atStart => exact ⟨0, _, _, _, _, Nat.zero_le _, rfl, rfl, rfl, by simpa using hp.out, hbp.out⟩
  case round =>
    clear hp hbp
    obtain ⟨k, e0, e1, g0, g1, hk, rfl, rfl, rfl, ho, hb⟩ := hrel
    have hsz := hb.size
    by_cases hlt : k < N
    · have lx : k < XS.length := by rw [HN.out]; exact hlt
      have lo : k < OT.length := by rw [HLO.out]; exact hlt
      have ls : k < SM.length := by rw [HLS.out]; exact hlt
      obtain ⟨b0, rfl⟩ := ho.addr 0 rfl (k := k) (by simpa using lx)
      have q0 := ho.get64 0 rfl lx
      obtain ⟨x, hx⟩ : ∃ x, XS[k] = x := ⟨_, rfl⟩
      rw [hx] at q0
      obtain ⟨y, hy⟩ : ∃ y, otherOf x2 k = y := ⟨_, rfl⟩
      have HTO : Hid (U (OT.take (k + 1)) = U (OT.take k) ++ [.int .u64 (y.toNat : Int)]) := by
        refine Lib.hid ?_
        rw [List.take_succ_eq_append_getElem lo, U_snoc, HO1.out, hy]
      have HTS : Hid (U (SM.take (k + 1)) = U (SM.take k) ++ [.int .u64 ((x + y).toNat : Int)]) := by
        refine Lib.hid ?_
        rw [List.take_succ_eq_append_getElem ls, U_snoc, HS1.out, hy, getD_get lx, hx]
      have hadd := fun w => run_add_u64 (P := Try.prog) x y w
      have HY := Lib.hid hy
      have HO := Lib.hid ho; have HB := Lib.hid hb
      clear hx hy
      by_cases h2 : k < n2
      · have l2 : k < x2.length := by rw [K2.out.2.1]; exact h2
        obtain ⟨b2, o2, rfl, q2⟩ := at_u64 K2.out.1 hb (Nat.le_refl _) l2
        have hy2 : x2[k] = y := by rw [← HY.out]; unfold otherOf; rw [if_pos l2, getD_get l2]
        rw [hy2] at q2
        clear ho hb hy2
        go_wp2_with (at_builtin; refine app30s [_] [_] (.tmp 48) (.tmp 50) rfl rfl wr.heap.size rfl rfl rfl HO.out rfl (by omega) (by omega) ?_)
        intro e2 g2 w2 ho2 hb2 hs2
        have hsz2 : w.heap.size ≤ w2.heap.size := by omega
        have HO2 := Lib.hid ho2
        have HB2 := Lib.hid (HB.out.trans hb2)
        clear ho2 hb2 HO HB q0 q2
        go_wp2_with (at_builtin; refine app30s [_, _] [] (.tmp 52) (.tmp 56) rfl rfl w2.heap.size rfl rfl rfl HO2.out rfl (by omega) (by omega) ?_)
        intro e3 g3 w3 ho3 hb3 hs3
        have HR3 : Hid (Owns w3 w.heap.size [⟨25, some ⟨b0, 0, none⟩, N, d0, U XS⟩, ⟨25, e2, k + 1, g2, U (OT.take (k + 1))⟩, ⟨25, e3, k + 1, g3, U (SM.take (k + 1))⟩]) := by refine Lib.hid ?_; rw [HTO.out, HTS.out]; exact ho3
        have HT3 := Lib.hid (HB2.out.trans hb3)
        clear ho3 hb3 HO2 HB2
        go_wp2
        go_roundw
        case rel => exact ⟨k + 1, e2, e3, g2, g3, by omega, by go_num, rfl, rfl, HR3.out, HT3.out⟩
        case measure => simp [intOf]; omega
      · have hy2 : BitVec.ofNat 64 k = y := by rw [← HY.out]; unfold otherOf; rw [if_neg (by rw [K2.out.2.1]; exact h2)]
        have hcv : ((y.toNat : Nat) : Int) = (k : Int) := by rw [← hy2]; simp; omega
        clear ho hb hy2
        have hwr : IntKind.u64.wrap ((x.toNat : Int) + (k : Int)) = ((x + y).toNat : Int) := by rw [← hcv]; exact u64_add x y
        rw [hcv] at HTO
        clear hadd
        go_wp2_with (at_builtin; refine app30s [_] [_] (.tmp 48) (.tmp 50) rfl rfl wr.heap.size rfl rfl rfl HO.out rfl (by omega) (by omega) ?_)
        intro e2 g2 w2 ho2 hb2 hs2
        have hsz2 : w.heap.size ≤ w2.heap.size := by omega
        have HO2 := Lib.hid ho2
        have HB2 := Lib.hid (HB.out.trans hb2)
        clear ho2 hb2 HO HB q0
        go_wp2_with (at_builtin; refine app30s [_, _] [] (.tmp 52) (.tmp 56) rfl rfl w2.heap.size rfl rfl rfl HO2.out rfl (by omega) (by omega) ?_)
        intro e3 g3 w3 ho3 hb3 hs3
        have HR3 : Hid (Owns w3 w.heap.size [⟨25, some ⟨b0, 0, none⟩, N, d0, U XS⟩, ⟨25, e2, k + 1, g2, U (OT.take (k + 1))⟩, ⟨25, e3, k + 1, g3, U (SM.take (k + 1))⟩]) := by refine Lib.hid ?_; rw [HTO.out, HTS.out]; first | exact ho3 | (rw [hwr] at ho3; exact ho3) | (rw [IntKind.wrap_u64] at hwr; rw [hwr] at ho3; exact ho3)
        have HT3 := Lib.hid (HB2.out.trans hb3)
        clear ho3 hb3 HO2 HB2
        go_wp2
        go_roundw
        case rel => exact ⟨k + 1, e2, e3, g2, g3, by omega, by go_num, rfl, rfl, HR3.out, HT3.out⟩
        case measure => simp [intOf]; omega
    · have hkN : N = k := by omega
      subst hkN
      rw [List.take_of_length_le (by rw [HLO.out]; omega), List.take_of_length_le (by rw [HLS.out]; omega)] at ho
      obtain ⟨w1, rfl⟩ : ∃ w1 : World, w1 = wr := ⟨_, rfl⟩
      have O1 := Lib.hid ho; have B1 := Lib.hid hb; have hz1 := hsz
      clear ho hb hsz
      obtain ⟨RA, hRA⟩ : ∃ R, calls.map (val (parOf x0) fun i => XS.getD i 0) = R := ⟨_, rfl⟩
      obtain ⟨RB, hRB⟩ : ∃ R, calls.map (val (parOf x0) fun i => OT.getD i 0) = R := ⟨_, rfl⟩
      obtain ⟨RC, hRC⟩ : ∃ R, calls.map (val (parOf x0) fun i => SM.getD i 0) = R := ⟨_, rfl⟩
      obtain ⟨ST, hST⟩ : ∃ S, calls.foldl (fun s i => runF (parOf x0) N i s) ([], List.replicate N 0) = S := ⟨_, rfl⟩
      have HSU : Hid (∀ (j : Nat) (ha : j < RA.length) (hb : j < RB.length) (hc : j < RC.length), RC[j] = RA[j] + RB[j]) := by
        refine Lib.hid ?_
        subst hRA hRB hRC
        intro j _ _ hc
        simp only [List.getElem_map]
        exact HV.out _ (List.getElem_mem _)
      have HLA : Hid (RA.length = m) := by show _ = _; rw [← hRA, List.length_map, HM.out]
      have HLB : Hid (RB.length = m) := by show _ = _; rw [← hRB, List.length_map, HM.out]
      have HLC : Hid (RC.length = m) := by show _ = _; rw [← hRC, List.length_map, HM.out]
      have HRA := Lib.hid hRA; have HRB := Lib.hid hRB; have HRC := Lib.hid hRC; have HST := Lib.hid hST
      clear hRA hRB hRC hST HV
      go_wp2_with fail
      refine (oParents_any w1 a0 n0 c0 N x0 (K0.out.1.mono B1.out (Nat.le_refl _)) K0.out.2.1 (by omega) (by omega)).mono ?_
      rintro e w2 ⟨pa, pc, R, rfl, hin, ho, hb⟩
      have O2 := Lib.hid (Laid.of O1.out ⟨R, hin, ho⟩ hb hz1); have B2 := Lib.hid (Below.more B1.out hb hz1)
      have hz2 : w.heap.size ≤ w2.heap.size := B2.out.size
      clear hin ho hb O1 B1 hz1
      go_wp2_with fail
      refine (oCalls_any w2 a3 n3 c3 N m x3 calls (K3.out.1.mono B2.out (Nat.le_refl _)) K3.out.2.1 (by omega) HC.out HM.out (by omega)).mono ?_
      rintro e w3 ⟨s3, d3, rfl, ho, hb⟩
      have O3 := Lib.hid (O2.out.more hb ho hz2); have B3 := Lib.hid (Below.more B2.out hb hz2)
      have hz3 : w.heap.size ≤ w3.heap.size := B3.out.size
      clear ho hb O2 B2 hz2
      go_wp2_with fail
      refine (laid_tree O3.out 0 3 rfl rfl (by omega) (by omega) HCN.out).mono ?_
      rintro e w4 ⟨r0, h0, r1, h1, r2, h2, rfl, ho, hb⟩
      have O4 := Lib.hid (O3.out.more hb ho hz3); have B4 := Lib.hid (Below.more B3.out hb hz3)
      have hz4 : w.heap.size ≤ w4.heap.size := B4.out.size
      clear ho hb O3 B3 hz3
      go_wp2_with fail
      refine (laid_tree O4.out 1 3 rfl rfl (by omega) (by omega) HCN.out).mono ?_
      rintro e w5 ⟨r3, h3, r4, h4, r5, h5, rfl, ho, hb⟩
      have O5 := Lib.hid (O4.out.more hb ho hz4); have B5 := Lib.hid (Below.more B4.out hb hz4)
      have hz5 : w.heap.size ≤ w5.heap.size := B5.out.size
      clear ho hb O4 B4 hz4
      go_wp2_with fail
      refine (laid_tree O5.out 2 3 rfl rfl (by omega) (by omega) HCN.out).mono ?_
      rintro e w6 ⟨r6, h6, r7, h7, r8, h8, rfl, ho, hb⟩
      have O6 := Lib.hid (O5.out.more hb ho hz5); have B6 := Lib.hid (Below.more B5.out hb hz5)
      have hz6 : w.heap.size ≤ w6.heap.size := B6.out.size
      clear ho hb O5 B5 hz5
      rw [HRA.out, HRB.out, HRC.out, HST.out] at O6
      have O7 := Lib.hid O6.out.owns
      clear O6
      have t1 : ((m : Int) != (m : Int)) = false := by simp
      go_wp2
      go_loopw [112] (fun i wr => ∃ k : Nat, k ≤ m ∧ i = .int .i64 k ∧ Owns wr w.heap.size [⟨25, r0, m, h0, U RA⟩, ⟨25, r3, m, h3, U RB⟩, ⟨25, r6, m, h6, U RC⟩] ∧ Below w.heap.size w wr) (fun i _ => m - (intOf i).toNat)
      case atStart => exact ⟨0, Nat.zero_le _, rfl, O7.out.drop (by repeat (first | exact List.nil_sublist _ | apply List.Sublist.cons_cons | apply List.Sublist.cons)), B6.out⟩
      case round =>
        clear O7 B6 hz6
        obtain ⟨k, hk, rfl, ho, hb⟩ := hrel
        by_cases hlt : k < m
        · have la : k < RA.length := by rw [HLA.out]; exact hlt
          have lb : k < RB.length := by rw [HLB.out]; exact hlt
          have lc : k < RC.length := by rw [HLC.out]; exact hlt
          obtain ⟨b0, rfl⟩ := ho.addr 0 rfl (k := k) (by simpa using la)
          obtain ⟨b1, rfl⟩ := ho.addr 1 rfl (k := k) (by simpa using lb)
          obtain ⟨b2, rfl⟩ := ho.addr 2 rfl (k := k) (by simpa using lc)
          have q0 := ho.get64 0 rfl la
          have q1 := ho.get64 1 rfl lb
          have q2 := ho.get64 2 rfl lc
          rw [HSU.out k la lb lc] at q2
          obtain ⟨x, hx⟩ : ∃ x, RA[k] = x := ⟨_, rfl⟩
          obtain ⟨y, hy⟩ : ∃ y, RB[k] = y := ⟨_, rfl⟩
          rw [hx] at q0 q2
          rw [hy] at q1 q2
          have hwr := u64_add x y
          obtain ⟨z, hz⟩ : ∃ z, x + y = z := ⟨_, rfl⟩
          rw [hz] at q2 hwr
          have t2 : ((z.toNat : Int) != IntKind.u64.wrap ((x.toNat : Int) + (y.toNat : Int))) = false := by rw [hwr]; simp
          clear hz hwr
          have HO := Lib.hid ho; have HB := Lib.hid hb
          clear ho hb hx hy
          go_wp2
          go_quiet (fail)
          go_wp2
          go_roundw
          case rel => exact ⟨k + 1, by omega, by go_num, HO.out.drewN _, below_drewN HB.out _⟩
          case measure => simp [intOf]; omega
        · have HB := Lib.hid hb
          clear ho hb
          go_wp2
          go_ret
          exact ⟨rfl, HB.out⟩
end Go.Proofs.Ytjjmjjbeecmmlad
