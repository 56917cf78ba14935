/-
  The walk of FnLastBit: the last call that decides a bit tells what it is.
-/
import Derived.Test.YtjjmjjbeecmmlabGrow
import Derived.Test.YtjjmjjbeecmmlabBitsPlain
import Derived.Test.YtjjmjjbeecmmlabFrame
namespace Go.Proofs.Ytjjmjjbeecmmlab
set_option linter.unusedVariables false
set_option linter.unusedSimpArgs false
open Go.RowKit

theorem bits_andNot (x y : BitVec 64) : bits .andNot .u64 (x.toNat : Int) (y.toNat : Int) = ((x &&& ~~~y).toNat : Int) := by
  show IntKind.u64.wrap ((BitVec.ofInt 64 (x.toNat : Int) &&& ~~~BitVec.ofInt 64 (y.toNat : Int)).toNat : Int) = _
  rw [u64_of, u64_of, u64_bits]
theorem bits_not (x : BitVec 64) : bits .xor .u64 IntKind.u64.max (x.toNat : Int) = ((~~~x).toNat : Int) ∧ bits .xor .u64 (if IntKind.u64.signed = true then -1 else IntKind.u64.max) (x.toNat : Int) = ((~~~x).toNat : Int) := by
  have h : bits .xor .u64 18446744073709551615 (x.toNat : Int) = ((~~~x).toNat : Int) := by
    show IntKind.u64.wrap ((BitVec.ofInt 64 (18446744073709551615 : Int) ^^^ BitVec.ofInt 64 (x.toNat : Int)).toNat : Int) = _
    rw [u64_of, u64_bits]
    have e : (BitVec.ofInt 64 (18446744073709551615 : Int) ^^^ x) = ~~~x := by
      rw [show BitVec.ofInt 64 (18446744073709551615 : Int) = BitVec.allOnes 64 by decide]
      exact BitVec.allOnes_xor
    rw [e]
  exact ⟨h, h⟩

def bitKind (κ : BitVec 8) : BitVec 8 := BitVec.ofNat 8 (5 + κ.toNat % 2)
theorem bitKind_kind (κ : BitVec 8) : bitKind κ = 5#8 ∨ bitKind κ = 6#8 := by
  unfold bitKind
  have : κ.toNat % 2 = 0 ∨ κ.toNat % 2 = 1 := by omega
  rcases this with h | h <;> rw [h]
  · left; rfl
  · right; rfl
def bitsOf (sc : List (Call 64)) : List (Call 64) := sc.map fun d => { d with kind := bitKind d.kind }
section
variable {sc : List (Call 64)}
theorem bitsOf_kinds : kindsOf (bitsOf sc) = (kindsOf sc).map bitKind := by simp [bitsOf, kindsOf]
theorem bitsOf_cells : cellsOf (bitsOf sc) = cellsOf sc := by simp [bitsOf, cellsOf]
theorem bitsOf_as : asOf (bitsOf sc) = asOf sc := by simp [bitsOf, asOf]
theorem bitsOf_bs : bsOf (bitsOf sc) = bsOf sc := by simp [bitsOf, bsOf]
theorem bitsOf_length : (bitsOf sc).length = sc.length := by simp [bitsOf]
theorem bitsOf_cell {n : Nat} (h : ∀ d ∈ sc, d.cell < n) : ∀ d ∈ bitsOf sc, d.cell < n := by
  intro d hd
  obtain ⟨e, he, rfl⟩ := List.mem_map.1 hd
  exact h e he
theorem bitsOf_kind : ∀ d ∈ bitsOf sc, d.kind = 5#8 ∨ d.kind = 6#8 := by
  intro d hd
  obtain ⟨e, he, rfl⟩ := List.mem_map.1 hd
  exact bitKind_kind _
end
theorem Owns.get8' {w : World} {B : Nat} {L : List Row} {e : TypeId} {b n c k : Nat} {xs : List Value} {v : Value} (h : Owns w B L) (i : Nat) (hi : L[i]? = some ⟨e, some ⟨b, 0, none⟩, n, c, xs⟩) (hv : xs[k]? = some v) : w.cell? ⟨b, k, none⟩ = some v := by
  obtain ⟨b', hb, hc, _⟩ := h.cellAt i hi (j := k) (List.getElem?_eq_some_iff.1 hv).1
  simp only [Option.some.injEq, Addr.mk.injEq, and_true] at hb
  subst hb
  rw [hc, hv]

set_option maxHeartbeats 3200000 in
set_option maxRecDepth 100000 in
theorem fnLastBit_any (w : World) (a0 : Option Addr) (n0 c0 : Nat) (x0 : List (BitVec 64)) (k0 : Came w a0 n0 c0 (U x0)) (a1 : Option Addr) (n1 c1 : Nat) (x1 : List (BitVec 8)) (k1 : Came w a1 n1 c1 (U8 x1)) (a2 : Option Addr) (n2 c2 : Nat) (x2 : List (BitVec 64)) (k2 : Came w a2 n2 c2 (U x2)) (bd : n0 + n1 + n2 ≤ 1048576) :
    Calls Try.prog 3 #[.slice a0 n0 c0, .slice a1 n1 c1, .slice a2 n2 c2] w fun e w' => e = .returned (.bool true) ∧ Below w.heap.size w w' := by
  have K0 := Lib.hid k0.u64; have K1 := Lib.hid k1.u8; have K2 := Lib.hid k2.u64
  clear k0 k1 k2
  by_cases h0 : n0 = 0
  · subst h0
    go_enter Try.func3, Try.ntmps3
    go_wp2
    go_ret
    exact ⟨rfl, Below.refl _ _⟩
  have t0 : ((n0 : Int) == 0) = false := by simp; omega
  have t1 : ((n1 : Int) != (n1 : Int)) = false := by simp
  have hnot : ∀ (x : Bool) (w : World), (Op.unary .not (.bool x)).run Try.prog w = .ok (.bool (!x)) w := fun _ _ => rfl
  have p0 : 0 < n0 := by omega
  obtain ⟨sc, hsc⟩ : ∃ sc, scriptOf x1 x2 n0 = sc := ⟨_, rfl⟩
  have HL : Hid (sc.length = n1) := by show _ = _; rw [← hsc, scriptOf_length, K1.out.2.1]
  have HC : Hid (∀ c ∈ sc, c.cell < n0) := by show ∀ c ∈ sc, _; rw [← hsc]; exact scriptOf_cell p0
  have HSC := Lib.hid hsc
  clear hsc
  obtain ⟨sc', hsc'⟩ : ∃ sc', bitsOf sc = sc' := ⟨_, rfl⟩
  have HL' : Hid (sc'.length = n1) := by show _ = _; rw [← hsc', bitsOf_length, HL.out]
  have HC' : Hid (∀ c ∈ sc', c.cell < n0) := by show ∀ c ∈ sc', _; rw [← hsc']; exact bitsOf_cell HC.out
  have HK' : Hid (∀ d ∈ sc', d.kind = 5#8 ∨ d.kind = 6#8) := by show ∀ c ∈ sc', _; rw [← hsc']; exact bitsOf_kind
  have HG : Hid (∀ k (h : k < sc.length) (h' : k < sc'.length), sc'[k] = { sc[k] with kind := bitKind sc[k].kind }) := by refine Lib.hid ?_; subst hsc'; intro k h h'; simp [bitsOf]
  have HKA : Hid (asOf sc = asOf sc' ∧ bsOf sc = bsOf sc' ∧ cellsOf sc = cellsOf sc' ∧ (kindsOf sc).map bitKind = kindsOf sc') := by
    refine Lib.hid ?_
    rw [← hsc', bitsOf_as, bitsOf_bs, bitsOf_cells, bitsOf_kinds]
    exact ⟨rfl, rfl, rfl, rfl⟩
  clear hsc'
  have O0 := Lib.hid (Owns.nil w w.heap.size); have B0 := Lib.hid (Below.refl w.heap.size w)
  have hz0 : w.heap.size ≤ w.heap.size := Nat.le_refl _
  go_enter Try.func3, Try.ntmps3
  go_wp2_with fail
  refine (script_any w a1 a2 c1 c2 n0 n1 n2 x1 x2 sc HSC.out K1.out.2.1 K2.out.2.1 K1.out.1 K2.out.1 (by omega) p0 (by omega) (by omega)).mono ?_
  rintro e w1 ⟨s0, d0, s1, d1, s2, d2, s3, d3, rfl, ho, hb⟩
  have O1 := Lib.hid (O0.out.more hb ho hz0); have B1 := Lib.hid (Below.more B0.out hb hz0)
  have hz1 : w.heap.size ≤ w1.heap.size := B1.out.size
  clear ho hb O0 B0 hz0
  go_wp2_with fail
  refine (copied_any a0 c0 n0 x0 w1 (K0.out.1.mono B1.out (Nat.le_refl _)) K0.out.2.1 K0.out.2.2.2 (by omega)).mono ?_
  rintro e w2 ⟨s4, d4, rfl, ho, hb⟩
  have O2 := Lib.hid (O1.out.more hb ho hz1); have B2 := Lib.hid (Below.more B1.out hb hz1)
  have hz2 : w.heap.size ≤ w2.heap.size := B2.out.size
  clear ho hb O1 B1 hz1
  go_wp2
  go_loopw [37] (fun i wr => ∃ k : Nat, k ≤ n1 ∧ i = .int .i64 k ∧ Owns wr w.heap.size [⟨5, s0, n1, d0, U8 (mapTo bitKind (kindsOf sc) k)⟩, ⟨3, s1, n1, d1, NI (cellsOf sc)⟩, ⟨28, s2, n1, d2, U (asOf sc)⟩, ⟨28, s3, n1, d3, U (bsOf sc)⟩, ⟨28, s4, n0, d4, U (runL x0 (sc'.take k)).2⟩] ∧ Below w.heap.size w wr) (fun i _ => n1 - (intOf i).toNat)
  case atStart => exact ⟨0, Nat.zero_le _, rfl, by rw [mapTo_zero]; exact O2.out, B2.out⟩
  case round =>
    clear O2 B2 hz2
    obtain ⟨k, hk, rfl, ho, hb⟩ := hrel
    have hsz := hb.size
    by_cases hlt : k < n1
    · have lk : k < (kindsOf sc).length := by simp [HL.out]; exact hlt
      have lm : k < (mapTo bitKind (kindsOf sc) k).length := by simpa using lk
      have ls : k < sc.length := by rw [HL.out]; exact hlt
      have lsc : k < sc'.length := by rw [HL'.out]; exact hlt
      obtain ⟨κ, cl, x, y, hcall⟩ : ∃ κ cl x y, sc[k] = ⟨κ, cl, x, y⟩ := ⟨_, _, _, _, rfl⟩
      have hcn : cl < n0 := by have := HC.out _ (List.getElem_mem ls); rw [hcall] at this; exact this
      obtain ⟨D, hD⟩ : ∃ D, (runL x0 (sc'.take k)).2 = D := ⟨_, rfl⟩
      rw [hD] at ho
      have ld : cl < D.length := by rw [← hD, runL_snd_length, K0.out.2.1]; exact hcn
      obtain ⟨o, hO⟩ : ∃ o, D[cl] = o := ⟨_, rfl⟩
      have HO : Hid (D.getD cl 0 = o) := by refine Lib.hid ?_; rw [← hO]; simp [ld]
      have HD := Lib.hid hD
      clear hD
      obtain ⟨b0, rfl⟩ := ho.addr 0 rfl (k := k) (by simpa using lm)
      obtain ⟨b1, rfl⟩ := ho.addr 1 rfl (k := k) (by simpa using ls)
      obtain ⟨b2, rfl⟩ := ho.addr 2 rfl (k := k) (by simpa using ls)
      obtain ⟨b4, rfl⟩ := ho.addr 4 rfl (k := cl) (by simpa using ld)
      have q0 := ho.get8 0 rfl lm
      have f0 := ho.free 0 rfl k
      rw [mapTo_get lk] at q0
      have hκ : (kindsOf sc)[k] = κ := by rw [kindsOf_get]; simp only [hcall]
      rw [hκ] at q0
      have hpar : κ.toNat % 2 = 0 ∨ κ.toNat % 2 = 1 := by omega
      rcases hpar with hq2 | hq2
      · have hq : (κ.toNat : Int) % 2 = 0 := by omega
        have hkd : bitKind κ = 5#8 := by unfold bitKind; rw [hq2]
        obtain ⟨z, hz⟩ : ∃ z, o &&& x = z := ⟨_, rfl⟩
        have hop : bits .and .u64 (o.toNat : Int) (x.toNat : Int) = (z.toNat : Int) := by rw [bits_and, hz]
        have HST : Hid ((runL x0 (sc'.take (k + 1))).2 = D.set cl z) := by
          refine Lib.hid ?_
          rw [runL_take_succ lsc, HG.out k ls lsc, hcall, HD.out]
          show D.set cl ((⟨bitKind κ, cl, x, y⟩ : Call 64).step (D.getD cl 0)).2 = _
          rw [HO.out, hkd, Call.step5 _ _ rfl]
          show D.set cl (o &&& x) = _
          rw [hz]
        obtain ⟨ho2, hb2⟩ := Owns.stored (p := []) ho rfl k (.int .u8 5)
        have q0' := (ho2.get8' 0 rfl (k := k) (v := .int .u8 5) (by rw [List.getElem?_set_self (by simpa using lm)]))
        have q1 := ho2.getI 1 rfl (k := k) (by simpa using ls)
        have q2 := ho2.get64 2 rfl (k := k) (by simpa using ls)
        have q4 := ho2.get64 4 rfl ld
        have f4 := ho2.free 4 rfl cl
        rw [cellsOf_get] at q1
        rw [asOf_get] at q2
        simp only [hcall] at q1 q2
        rw [hO] at q4
        obtain ⟨ho3, hb3⟩ := Owns.stored (p := [_, _, _, _]) ho2 rfl cl (.int .u64 (z.toNat : Int))
        have HR : Hid (Owns ((wr.setCell ⟨b0, k, none⟩ (.int .u8 5)).setCell ⟨b4, cl, none⟩ (.int .u64 (z.toNat : Int))) w.heap.size [⟨5, some ⟨b0, 0, none⟩, n1, d0, U8 (mapTo bitKind (kindsOf sc) (k + 1))⟩, ⟨3, some ⟨b1, 0, none⟩, n1, d1, NI (cellsOf sc)⟩, ⟨28, some ⟨b2, 0, none⟩, n1, d2, U (asOf sc)⟩, ⟨28, s3, n1, d3, U (bsOf sc)⟩, ⟨28, some ⟨b4, 0, none⟩, n0, d4, U (runL x0 (sc'.take (k + 1))).2⟩]) := by
          refine Lib.hid ?_
          have e := U8_set (xs := mapTo bitKind (kindsOf sc) k) (i := k) 5#8
          have e2 := mapTo_set (f := bitKind) lk
          rw [hκ, hkd] at e2
          rw [HST.out, ← e2, ← e, ← U_set]
          exact ho3
        have HT := Lib.hid (hb.trans (hb2.trans hb3))
        clear ho ho2 ho3 hb hb2 hb3 hcall hO hz hκ hkd hq2
        go_wp2
        generalize hwv : wr.setCell ⟨b0, k, none⟩ (.int .u8 5) = wv at q0' q1 q2 q4 f4 HR HT ⊢
        clear hwv q0 f0 q0'
        go_still_tail 13, (by kernel_rfl)
        go_wp2
        go_roundw
        case rel => exact ⟨k + 1, by omega, by go_num, HR.out.drew, HT.out.drew⟩
        case measure => simp [intOf]; omega
      · have hq : (κ.toNat : Int) % 2 = 1 := by omega
        have hkd : bitKind κ = 6#8 := by unfold bitKind; rw [hq2]
        obtain ⟨z, hz⟩ : ∃ z, o ||| x = z := ⟨_, rfl⟩
        have hop : bits .or .u64 (o.toNat : Int) (x.toNat : Int) = (z.toNat : Int) := by rw [bits_or, hz]
        have HST : Hid ((runL x0 (sc'.take (k + 1))).2 = D.set cl z) := by
          refine Lib.hid ?_
          rw [runL_take_succ lsc, HG.out k ls lsc, hcall, HD.out]
          show D.set cl ((⟨bitKind κ, cl, x, y⟩ : Call 64).step (D.getD cl 0)).2 = _
          rw [HO.out, hkd, Call.step6 _ _ rfl]
          show D.set cl (o ||| x) = _
          rw [hz]
        obtain ⟨ho2, hb2⟩ := Owns.stored (p := []) ho rfl k (.int .u8 6)
        have q0' := (ho2.get8' 0 rfl (k := k) (v := .int .u8 6) (by rw [List.getElem?_set_self (by simpa using lm)]))
        have q1 := ho2.getI 1 rfl (k := k) (by simpa using ls)
        have q2 := ho2.get64 2 rfl (k := k) (by simpa using ls)
        have q4 := ho2.get64 4 rfl ld
        have f4 := ho2.free 4 rfl cl
        rw [cellsOf_get] at q1
        rw [asOf_get] at q2
        simp only [hcall] at q1 q2
        rw [hO] at q4
        obtain ⟨ho3, hb3⟩ := Owns.stored (p := [_, _, _, _]) ho2 rfl cl (.int .u64 (z.toNat : Int))
        have HR : Hid (Owns ((wr.setCell ⟨b0, k, none⟩ (.int .u8 6)).setCell ⟨b4, cl, none⟩ (.int .u64 (z.toNat : Int))) w.heap.size [⟨5, some ⟨b0, 0, none⟩, n1, d0, U8 (mapTo bitKind (kindsOf sc) (k + 1))⟩, ⟨3, some ⟨b1, 0, none⟩, n1, d1, NI (cellsOf sc)⟩, ⟨28, some ⟨b2, 0, none⟩, n1, d2, U (asOf sc)⟩, ⟨28, s3, n1, d3, U (bsOf sc)⟩, ⟨28, some ⟨b4, 0, none⟩, n0, d4, U (runL x0 (sc'.take (k + 1))).2⟩]) := by
          refine Lib.hid ?_
          have e := U8_set (xs := mapTo bitKind (kindsOf sc) k) (i := k) 6#8
          have e2 := mapTo_set (f := bitKind) lk
          rw [hκ, hkd] at e2
          rw [HST.out, ← e2, ← e, ← U_set]
          exact ho3
        have HT := Lib.hid (hb.trans (hb2.trans hb3))
        clear ho ho2 ho3 hb hb2 hb3 hcall hO hz hκ hkd hq2
        go_wp2
        generalize hwv : wr.setCell ⟨b0, k, none⟩ (.int .u8 6) = wv at q0' q1 q2 q4 f4 HR HT ⊢
        clear hwv q0 f0 q0'
        go_still_tail 13, (by kernel_rfl)
        go_wp2
        go_roundw
        case rel => exact ⟨k + 1, by omega, by go_num, HR.out.drew, HT.out.drew⟩
        case measure => simp [intOf]; omega
    · rw [mapTo_all (by simp [HL.out]; omega), HKA.out.1, HKA.out.2.1, HKA.out.2.2.1, HKA.out.2.2.2, List.take_of_length_le (by rw [HL'.out]; omega)] at ho
      obtain ⟨S, hS⟩ : ∃ S, (runL x0 sc').2 = S := ⟨_, rfl⟩
      have HLS : Hid (S.length = n0) := by show _ = _; rw [← hS, runL_snd_length, K0.out.2.1]
      rw [hS] at ho
      have HS := Lib.hid hS
      clear hS
      obtain ⟨w2, rfl⟩ : ∃ w2 : World, w2 = wr := ⟨_, rfl⟩
      have O2 := Lib.hid ho; have B2 := Lib.hid hb; have hz2 := hsz
      clear ho hb hsz HG HKA HC HL
      go_wp2_with fail
      refine (copied_any a0 c0 n0 x0 w2 (K0.out.1.mono B2.out (Nat.le_refl _)) K0.out.2.1 K0.out.2.2.2 (by omega)).mono ?_
      rintro e w3 ⟨s5, d5, rfl, ho, hb⟩
      have O3 := Lib.hid (O2.out.more hb ho hz2); have B3 := Lib.hid (Below.more B2.out hb hz2)
      have hz3 : w.heap.size ≤ w3.heap.size := B3.out.size
      clear ho hb O2 B2 hz2
      go_wp2_with fail
      refine (run64_any w3 s5 s0 s1 s2 s3 d5 d0 d1 d2 d3 n0 n1 x0 sc' K0.out.2.1 HL'.out (O3.out.rdAt 5 rfl) (O3.out.rdAt 0 rfl) (O3.out.rdAt 1 rfl) (O3.out.rdAt 2 rfl) (O3.out.rdAt 3 rfl) (by omega) (by omega) HC'.out).mono ?_
      rintro e w4 ⟨s6, d6, s7, d7, rfl, ho, hb⟩
      have O4 := Lib.hid (O3.out.more hb ho hz3); have B4 := Lib.hid (Below.more B3.out hb hz3)
      have hz4 : w.heap.size ≤ w4.heap.size := B4.out.size
      clear ho hb O3 B3 hz3
      rw [HS.out] at O4
      go_wp2_with fail
      refine (sameWords_any s7 s4 d7 d4 n0 n0 S S w4 (O4.out.rdAt 7 rfl) (O4.out.rdAt 4 rfl) HLS.out HLS.out (by omega) (by omega) true (by simp)).mono ?_
      rintro e w5 ⟨rfl, hb⟩
      have O5 := Lib.hid (O4.out.mono hb (Nat.le_refl _)); have B5 := Lib.hid (Below.more B4.out hb hz4)
      have hz5 : w.heap.size ≤ w5.heap.size := B5.out.size
      clear hb O4 B4 hz4
      have O6 := Lib.hid (O5.out.drop (L' := [⟨5, s0, n1, d0, U8 (kindsOf sc')⟩, ⟨3, s1, n1, d1, NI (cellsOf sc')⟩, ⟨28, s2, n1, d2, U (asOf sc')⟩, ⟨28, s7, n0, d7, U S⟩]) (by repeat (first | exact List.nil_sublist _ | apply List.Sublist.cons_cons | apply List.Sublist.cons)))
      clear O5
      go_wp2
      go_loopw [104] (fun i wr => ∃ c : Nat, c ≤ n0 ∧ i = .int .i64 c ∧ Owns wr w.heap.size [⟨5, s0, n1, d0, U8 (kindsOf sc')⟩, ⟨3, s1, n1, d1, NI (cellsOf sc')⟩, ⟨28, s2, n1, d2, U (asOf sc')⟩, ⟨28, s7, n0, d7, U S⟩] ∧ Below w.heap.size w wr) (fun i _ => n0 - (intOf i).toNat)
      case atStart => exact ⟨0, Nat.zero_le _, rfl, O6.out, B5.out⟩
      case round =>
        clear O6 B5 hz5
        obtain ⟨c, hc, rfl, ho, hb⟩ := hrel
        by_cases hlc : c < n0
        · have lS : c < S.length := by rw [HLS.out]; exact hlc
          obtain ⟨last, hlast⟩ : ∃ v, S[c] = v := ⟨_, rfl⟩
          have HLAST : Hid (before x0 sc' c n1 = last) := by
            refine Lib.hid ?_
            unfold before
            rw [List.take_of_length_le (by rw [HL'.out]; omega), HS.out, ← hlast]
            simp [lS]
          have HLS2 := Lib.hid hlast
          have HO := Lib.hid ho; have HB := Lib.hid hb
          clear ho hb hlast
          obtain ⟨w6, rfl⟩ : ∃ w6 : World, w6 = wr := ⟨_, rfl⟩
          go_wp2
          go_loopw [17, 16] (fun i v wr => ∃ (j : Nat) (dec : BitVec 64), j ≤ n1 ∧ i = .int .i64 ((j : Int) - 1) ∧ v = .int .u64 (dec.toNat : Int) ∧ last &&& ~~~dec = before x0 sc' c j &&& ~~~dec ∧ wr = w6) (fun i _ _ => ((intOf i) + 1).toNat)
          case atStart => exact ⟨n1, 0#64, Nat.le_refl _, rfl, rfl, by rw [HLAST.out], rfl⟩
          case round =>
            obtain ⟨j, dec, hj, rfl, rfl, hdec, rfl⟩ := hrel
            have HDEC := Lib.hid hdec
            clear hdec
            cases j with
            | zero =>
              obtain ⟨b7, rfl⟩ := HO.out.addr 3 rfl (k := c) (by simpa using lS)
              have q7 := HO.out.get64 3 rfl lS
              rw [HLS2.out] at q7
              have lx : c < x0.length := by rw [K0.out.2.1]; exact hlc
              obtain ⟨ba, oa, rfl, qa⟩ := at_u64 K0.out.1 HB.out (Nat.le_refl _) lx
              obtain ⟨x, hx⟩ : ∃ x, x0[c] = x := ⟨_, rfl⟩
              rw [hx] at qa
              have hee : last &&& ~~~dec = x &&& ~~~dec := by
                have := HDEC.out
                unfold before at this
                simp only [List.take_zero, runL] at this
                rw [← hx]
                simpa [lx] using this
              have op1 := bits_andNot last dec
              have op2 := bits_andNot x dec
              rw [hee] at op1
              obtain ⟨z, hz⟩ : ∃ z, x &&& ~~~dec = z := ⟨_, rfl⟩
              rw [hz] at op1 op2
              have tz : ((z.toNat : Int) != (z.toNat : Int)) = false := by simp
              clear hee hz hx
              go_wp2
              go_quiet (fail)
              go_wp2
              go_roundw
              case rel => exact ⟨c + 1, by omega, by go_num, HO.out.drewN _, below_drewN HB.out _⟩
              case measure => simp [intOf]; omega
            | succ j =>
              have e1 : (((j + 1 : Nat) : Int) - 1) = (j : Int) := by omega
              rw [e1]
              have lj : j < sc'.length := by rw [HL'.out]; omega
              obtain ⟨κ, cl, x, y, hcall⟩ : ∃ κ cl x y, sc'[j] = ⟨κ, cl, x, y⟩ := ⟨_, _, _, _, rfl⟩
              have hkk := HK'.out _ (List.getElem_mem lj)
              rw [hcall] at hkk
              obtain ⟨b0, rfl⟩ := HO.out.addr 0 rfl (k := j) (by simpa using lj)
              obtain ⟨b1, rfl⟩ := HO.out.addr 1 rfl (k := j) (by simpa using lj)
              obtain ⟨b2, rfl⟩ := HO.out.addr 2 rfl (k := j) (by simpa using lj)
              obtain ⟨b7, rfl⟩ := HO.out.addr 3 rfl (k := c) (by simpa using lS)
              have q0 := HO.out.get8 0 rfl (k := j) (by simpa using lj)
              have q1 := HO.out.getI 1 rfl (k := j) (by simpa using lj)
              have q2 := HO.out.get64 2 rfl (k := j) (by simpa using lj)
              have q7 := HO.out.get64 3 rfl lS
              rw [HLS2.out] at q7
              rw [kindsOf_get] at q0
              rw [cellsOf_get] at q1
              rw [asOf_get] at q2
              simp only [hcall] at q0 q1 q2
              by_cases hcl : cl = c
              · subst hcl
                have tc : ((cl : Int) != (cl : Int)) = false := by simp
                have HHIT := Lib.hid (before_hit (st := x0) lj hcall rfl (by rw [K0.out.2.1]; exact hlc))
                have hi2 : last &&& ~~~dec = ((⟨κ, cl, x, y⟩ : Call 64).step (before x0 sc' cl j)).2 &&& ~~~dec := by rw [HDEC.out, HHIT.out]
                have HH := Lib.hid (bit_here ⟨κ, cl, x, y⟩ _ last dec hkk hi2)
                have HN := Lib.hid (bit_before ⟨κ, cl, x, y⟩ _ last dec hkk hi2)
                simp only [] at hkk
                clear hi2 hcall
                rcases hkk with hkk | hkk
                · subst hkk
                  have hown : ownBits ⟨5#8, cl, x, y⟩ = ~~~x := by unfold ownBits; simp
                  have hmade : madeBits ⟨5#8, cl, x, y⟩ = 0#64 := by unfold madeBits; simp
                  rw [hown, hmade] at HH
                  rw [hown] at HN
                  replace q0 : wr.cell? ⟨b0, j, none⟩ = some (.int .u8 5) := q0
                  obtain ⟨hx1, hx2⟩ := bits_not x
                  obtain ⟨nx, hnx⟩ : ∃ nx, ~~~x = nx := ⟨_, rfl⟩
                  rw [hnx] at hx1 hx2 HH HN
                  have op1 := bits_andNot nx dec
                  obtain ⟨ow, how⟩ : ∃ ow, nx &&& ~~~dec = ow := ⟨_, rfl⟩
                  rw [how] at op1 HH HN
                  have op2 := bits_and last ow
                  have op3 := bits_and 0#64 ow
                  rw [HH.out] at op2
                  obtain ⟨z, hz⟩ : ∃ z, 0#64 &&& ow = z := ⟨_, rfl⟩
                  rw [hz] at op2 op3
                  replace op3 : bits .and .u64 0 (ow.toNat : Int) = (z.toNat : Int) := op3
                  have tz : ((z.toNat : Int) != (z.toNat : Int)) = false := by simp
                  have op4 := bits_or dec ow
                  obtain ⟨nd, hnd⟩ : ∃ nd, dec ||| ow = nd := ⟨_, rfl⟩
                  rw [hnd] at op4 HN
                  clear hown hmade hnx how hz hnd HH HHIT
                  go_wp2
                  go_roundw
                  case rel => exact ⟨j, nd, by omega, by go_num, rfl, HN.out, by first | rfl | trivial⟩
                  case measure => simp [intOf]; try omega
                · subst hkk
                  have hown : ownBits ⟨6#8, cl, x, y⟩ = x := by unfold ownBits; simp
                  have hmade : madeBits ⟨6#8, cl, x, y⟩ = x := by unfold madeBits; simp
                  rw [hown, hmade] at HH
                  rw [hown] at HN
                  replace q0 : wr.cell? ⟨b0, j, none⟩ = some (.int .u8 6) := q0
                  have op1 := bits_andNot x dec
                  obtain ⟨ow, how⟩ : ∃ ow, x &&& ~~~dec = ow := ⟨_, rfl⟩
                  rw [how] at op1 HH HN
                  have op2 := bits_and last ow
                  have op3 := bits_and x ow
                  rw [HH.out] at op2
                  obtain ⟨z, hz⟩ : ∃ z, x &&& ow = z := ⟨_, rfl⟩
                  rw [hz] at op2 op3
                  have tz : ((z.toNat : Int) != (z.toNat : Int)) = false := by simp
                  have op4 := bits_or dec ow
                  obtain ⟨nd, hnd⟩ : ∃ nd, dec ||| ow = nd := ⟨_, rfl⟩
                  rw [hnd] at op4 HN
                  clear hown hmade how hz hnd HH HHIT
                  go_wp2
                  go_roundw
                  case rel => exact ⟨j, nd, by omega, by go_num, rfl, HN.out, by first | rfl | trivial⟩
                  case measure => simp [intOf]; try omega
              · have tc : ((cl : Int) != (c : Int)) = true := by simp only [bne_iff_ne, ne_eq]; omega
                have HM : Hid (last &&& ~~~dec = before x0 sc' c j &&& ~~~dec) := by
                  refine Lib.hid ?_
                  rw [HDEC.out, before_miss lj hcall hcl]
                clear hcall hkk
                go_wp2
                go_roundw
                case rel => exact ⟨j, dec, by omega, by go_num, rfl, HM.out, by first | rfl | trivial⟩
                case measure => simp [intOf]; try omega
        · have HB := Lib.hid hb
          clear ho hb
          go_wp2
          go_ret
          exact ⟨rfl, HB.out⟩
end Go.Proofs.Ytjjmjjbeecmmlab
