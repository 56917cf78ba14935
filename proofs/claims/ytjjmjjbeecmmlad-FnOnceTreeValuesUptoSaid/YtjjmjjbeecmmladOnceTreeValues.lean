/-
  The walk of FnOnceTreeValues: each call returns the node's value.
-/
import Derived.Test.YtjjmjjbeecmmladTreeFns
import Derived.Test.YtjjmjjbeecmmladFrame
namespace Go.Proofs.Ytjjmjjbeecmmlad
set_option linter.unusedVariables false
set_option linter.unusedSimpArgs false
open Go.RowKit

set_option maxHeartbeats 3200000 in
set_option maxRecDepth 100000 in
theorem fnOnceTreeValues_any (w : World) (a0 : Option Addr) (n0 c0 : Nat) (x0 : List (BitVec 8)) (k0 : Came w a0 n0 c0 (U8 x0)) (a1 : Option Addr) (n1 c1 : Nat) (x1 : List (BitVec 64)) (k1 : Came w a1 n1 c1 (U x1)) (a2 : Option Addr) (n2 c2 : Nat) (x2 : List (BitVec 8)) (k2 : Came w a2 n2 c2 (U8 x2)) (bd : n0 + n1 + n2 ≤ 1048576) :
    Calls Try.prog 5 #[.slice a0 n0 c0, .slice a1 n1 c1, .slice a2 n2 c2] w fun e w' => e = .returned (.bool true) ∧ Below w.heap.size w w' := by
  have K0 := Lib.hid k0.u8; have K1 := Lib.hid k1.u64; have K2 := Lib.hid k2.u8
  clear k0 k1 k2
  obtain ⟨XS, hxs⟩ : ∃ XS, x1.take 12 = XS := ⟨_, rfl⟩
  obtain ⟨N, hN⟩ : ∃ N, XS.length = N := ⟨_, rfl⟩
  have bN : N ≤ 12 := by rw [← hN, ← hxs]; simp; omega
  obtain ⟨calls, hcalls⟩ : ∃ l, oCalls x2 N = l := ⟨_, rfl⟩
  obtain ⟨m, hm⟩ : ∃ m, calls.length = m := ⟨_, rfl⟩
  have bm : m ≤ 1048576 := by
    rw [← hm, ← hcalls]
    unfold oCalls
    split
    · simp
    · simp [K2.out.2.1]; omega
  have HXS := Lib.hid hxs; have HN := Lib.hid hN; have HC := Lib.hid hcalls; have HM := Lib.hid hm
  have HCN : Hid (∀ i ∈ calls, i < N) := by refine Lib.hid ?_; rw [← hcalls]; exact oCalls_lt
  clear hxs hN hcalls hm
  obtain ⟨VS, hVS⟩ : ∃ V, (List.range N).map (val (parOf x0) fun i => XS.getD i 0) = V := ⟨_, rfl⟩
  obtain ⟨RA, hRA⟩ : ∃ R, calls.map (val (parOf x0) fun i => XS.getD i 0) = R := ⟨_, rfl⟩
  have HLV : Hid (VS.length = N) := by show _ = _; rw [← hVS]; simp
  have HLR : Hid (RA.length = m) := by show _ = _; rw [← hRA, List.length_map, HM.out]
  have HEQ : Hid (∀ (k : Nat) (hc : k < calls.length) (hr : k < RA.length) (hv : calls[k] < VS.length), VS[calls[k]] = RA[k]) := by
    refine Lib.hid ?_
    subst hVS hRA
    intro k hc hr hv
    simp
  have HVS := Lib.hid hVS; have HRA := Lib.hid hRA
  clear hVS hRA
  have t1 : ((m : Int) != (m : Int)) = false := by simp
  go_enter Try.func5, Try.ntmps5
  have O0 := Lib.hid (Owns.nil w w.heap.size); have B0 := Lib.hid (Below.refl w.heap.size w)
  have hz0 : w.heap.size ≤ w.heap.size := Nat.le_refl _
  go_wp2_with fail
  refine (oNumbers_any w a1 n1 c1 N x1 XS K1.out.1 K1.out.2.1 K1.out.2.2.1 K1.out.2.2.2 (by omega) HXS.out HN.out).mono ?_
  rintro e w1 ⟨s0, d0, rfl, ho, hb⟩
  have O1 := Lib.hid (O0.out.more hb ho hz0); have B1 := Lib.hid (Below.more B0.out hb hz0)
  have hz1 : w.heap.size ≤ w1.heap.size := B1.out.size
  clear ho hb O0 B0 hz0
  go_wp2_with fail
  refine (oParents_any w1 a0 n0 c0 N x0 (K0.out.1.mono B1.out (Nat.le_refl _)) K0.out.2.1 (by omega) (by omega)).mono ?_
  rintro e w2 ⟨pa, pc, R, rfl, hin, ho, hb⟩
  have O2 := Lib.hid (Laid.of O1.out ⟨R, hin, ho⟩ hb hz1); have B2 := Lib.hid (Below.more B1.out hb hz1)
  have hz2 : w.heap.size ≤ w2.heap.size := B2.out.size
  clear hin ho hb O1 B1 hz1
  go_wp2_with fail
  refine (oCalls_any w2 a2 n2 c2 N m x2 calls (K2.out.1.mono B2.out (Nat.le_refl _)) K2.out.2.1 (by omega) HC.out HM.out (by omega)).mono ?_
  rintro e w3 ⟨s1, d1, rfl, ho, hb⟩
  have O3 := Lib.hid (O2.out.more hb ho hz2); have B3 := Lib.hid (Below.more B2.out hb hz2)
  have hz3 : w.heap.size ≤ w3.heap.size := B3.out.size
  clear ho hb O2 B2 hz2
  go_wp2_with fail
  refine (laid_tree O3.out 0 1 rfl rfl (by omega) (by omega) HCN.out).mono ?_
  rintro e w4 ⟨r0, h0, r1, h1, r2, h2, rfl, ho, hb⟩
  have O4 := Lib.hid (O3.out.more hb ho hz3); have B4 := Lib.hid (Below.more B3.out hb hz3)
  have hz4 : w.heap.size ≤ w4.heap.size := B4.out.size
  clear ho hb O3 B3 hz3
  go_wp2_with fail
  refine (oValues_any w4 pa s0 N pc d0 (parOf x0) XS VS (by omega) HN.out (O4.out.rdAt 0 rfl) (fun i p hp => parOf_less p hp) (O4.out.par fun i => parOf_length) HVS.out).mono ?_
  rintro e w5 ⟨v0, g0, rfl, ho, hb⟩
  have O5 := Lib.hid (O4.out.more hb ho hz4); have B5 := Lib.hid (Below.more B4.out hb hz4)
  have hz5 : w.heap.size ≤ w5.heap.size := B5.out.size
  clear ho hb O4 B4 hz4
  rw [HRA.out] at O5
  have O6 := Lib.hid O5.out.owns
  clear O5
  go_wp2
  go_loopw [44] (fun i wr => ∃ k : Nat, k ≤ m ∧ i = .int .i64 k ∧ Owns wr w.heap.size [⟨3, s1, m, d1, NI calls⟩, ⟨25, r0, m, h0, U RA⟩, ⟨25, v0, N, g0, U VS⟩] ∧ Below w.heap.size w wr) (fun i _ => m - (intOf i).toNat)
  case atStart => exact ⟨0, Nat.zero_le _, rfl, O6.out.drop (by repeat (first | exact List.nil_sublist _ | apply List.Sublist.cons_cons | apply List.Sublist.cons)), B5.out⟩
  case round =>
    clear O6 B5 hz5
    obtain ⟨k, hk, rfl, ho, hb⟩ := hrel
    by_cases hlt : k < m
    · have lc : k < calls.length := by rw [HM.out]; exact hlt
      have la : k < RA.length := by rw [HLR.out]; exact hlt
      have li : calls[k] < VS.length := by rw [HLV.out]; exact HCN.out _ (List.getElem_mem _)
      obtain ⟨b0, rfl⟩ := ho.addr 0 rfl (k := k) (by simpa using lc)
      obtain ⟨b1, rfl⟩ := ho.addr 1 rfl (k := k) (by simpa using la)
      obtain ⟨b2, rfl⟩ := ho.addr 2 rfl (k := calls[k]) (by simpa using li)
      have q0 := ho.getI 0 rfl lc
      have q1 := ho.get64 1 rfl la
      have q2 := ho.get64 2 rfl li
      rw [HEQ.out k lc la li] at q2
      rw [HLV.out] at li
      obtain ⟨i, hi⟩ : ∃ i, calls[k] = i := ⟨_, rfl⟩
      obtain ⟨x, hx⟩ : ∃ x, RA[k] = x := ⟨_, rfl⟩
      rw [hi] at q0 q2 li
      rw [hx] at q1 q2
      have t2 : ((x.toNat : Int) != (x.toNat : Int)) = false := by simp
      have HO := Lib.hid ho; have HB := Lib.hid hb
      clear ho hb hx hi
      go_wp2
      go_quiet (fail)
      go_wp2
      go_roundw
      case rel => exact ⟨k + 1, by omega, by go_num, HO.out.drewN _, below_drewN HB.out _⟩
      case measure => simp [intOf]; omega
    · have HB := Lib.hid hb
      clear ho hb
      go_wp2
      go_ret
      exact ⟨rfl, HB.out⟩
end Go.Proofs.Ytjjmjjbeecmmlad
