/-
  The walk of FnCellsAsDefined: a script's answers and cells are those of the reference.
-/
import Derived.Test.YtjjmjjbeecmmlaaScript
import Derived.Test.YtjjmjjbeecmmlaaSpecRun
import Derived.Test.YtjjmjjbeecmmlaaFrame
namespace Go.Proofs.Ytjjmjjbeecmmlaa
set_option linter.unusedVariables false
set_option linter.unusedSimpArgs false
open Go.RowKit

set_option maxHeartbeats 1600000 in
set_option maxRecDepth 100000 in
theorem fnCellsAsDefined_any (w : World) (a0 : Option Addr) (n0 c0 : Nat) (x0 : List (BitVec 64)) (k0 : Came w a0 n0 c0 (U x0)) (a1 : Option Addr) (n1 c1 : Nat) (x1 : List (BitVec 8)) (k1 : Came w a1 n1 c1 (U8 x1)) (a2 : Option Addr) (n2 c2 : Nat) (x2 : List (BitVec 64)) (k2 : Came w a2 n2 c2 (U x2)) (bd : n0 + n1 + n2 ≤ 1048576) :
    Calls Try.prog 4 #[.slice a0 n0 c0, .slice a1 n1 c1, .slice a2 n2 c2] w fun e w' => e = .returned (.bool true) ∧ Below w.heap.size w w' := by
  have K0 := Lib.hid k0.u64; have K1 := Lib.hid k1.u8; have K2 := Lib.hid k2.u64
  clear k0 k1 k2
  by_cases h0 : n0 = 0
  · subst h0
    go_enter Try.func4, Try.ntmps4
    go_wp2
    go_ret
    exact ⟨rfl, Below.refl _ _⟩
  · have t0 : ((n0 : Int) == 0) = false := by simp; omega
    have p0 : 0 < n0 := by omega
    obtain ⟨sc, hsc⟩ : ∃ sc, scriptOf x1 x2 n0 = sc := ⟨_, rfl⟩
    have HL : Hid (sc.length = n1) := by show _ = _; rw [← hsc, scriptOf_length, K1.out.2.1]
    have HC : Hid (∀ c ∈ sc, c.cell < n0) := by show ∀ c ∈ sc, _; rw [← hsc]; exact scriptOf_cell p0
    have HSC := Lib.hid hsc
    clear hsc
    go_enter Try.func4, Try.ntmps4
    go_wp2_with fail
    refine (scriptOf_any w a1 a2 c1 c2 n0 n1 n2 x1 x2 K1.out.2.1 K2.out.2.1 K1.out.1 K2.out.1 (by omega) p0 (by omega) (by omega)).mono ?_
    rintro e w1 ⟨s0, d0, s1, d1, s2, d2, s3, d3, rfl, ho1, hb1⟩
    rw [HSC.out] at ho1
    have hz1 := hb1.size
    have O1 := Lib.hid ho1; have B1 := Lib.hid hb1
    clear ho1 hb1
    go_wp2_with fail
    refine (copied_any a0 c0 n0 x0 w1 (K0.out.1.mono B1.out (Nat.le_refl _)) K0.out.2.1 K0.out.2.2.2 (by omega)).mono ?_
    rintro e w2 ⟨s4, d4, rfl, ho2, hb2⟩
    have O2 := Lib.hid (O1.out.more hb2 ho2 hz1); have B2 := Lib.hid (Below.more B1.out hb2 hz1)
    have hz2 := B2.out.size
    clear ho2 hb2 O1 B1 hz1
    go_wp2_with fail
    refine (run64_any w2 s4 s0 s1 s2 s3 d4 d0 d1 d2 d3 n0 n1 x0 sc K0.out.2.1 HL.out (O2.out.rdAt 4 rfl) (O2.out.rdAt 0 rfl) (O2.out.rdAt 1 rfl) (O2.out.rdAt 2 rfl) (O2.out.rdAt 3 rfl) (by omega) (by omega) HC.out).mono ?_
    rintro e w3 ⟨s5, d5, s6, d6, rfl, ho3, hb3⟩
    have O3 := Lib.hid (O2.out.more hb3 ho3 hz2); have B3 := Lib.hid (Below.more B2.out hb3 hz2)
    have hz3 := B3.out.size
    clear ho3 hb3 O2 B2 hz2
    go_wp2_with fail
    refine (spec64_any w3 a0 s0 s1 s2 s3 c0 d0 d1 d2 d3 n0 n1 x0 sc K0.out.2.1 HL.out K0.out.nil0 (K0.out.1.mono B3.out (Nat.le_refl _)) (O3.out.rdAt 0 rfl) (O3.out.rdAt 1 rfl) (O3.out.rdAt 2 rfl) (O3.out.rdAt 3 rfl) (by omega) (by omega) HC.out).mono ?_
    rintro e w4 ⟨s7, d7, s8, d8, rfl, ho4, hb4⟩
    have O4 := Lib.hid (O3.out.more hb4 ho4 hz3); have B4 := Lib.hid (Below.more B3.out hb4 hz3)
    have hz4 := B4.out.size
    clear ho4 hb4 O3 B3 hz3
    go_wp2_with fail
    refine (sameWords_any s5 s7 d5 d7 n1 n1 (runL x0 sc).1 (runL x0 sc).1 w4 (O4.out.rdAt 5 rfl) (O4.out.rdAt 7 rfl) (by rw [runL_fst_length, HL.out]) (by rw [runL_fst_length, HL.out]) (by omega) (by omega) true (by simp)).mono ?_
    rintro e w5 ⟨rfl, hb5⟩
    have O5 := Lib.hid (O4.out.mono hb5 (Nat.le_refl _)); have B5 := Lib.hid (Below.more B4.out hb5 hz4)
    have hz5 := B5.out.size
    clear hb5 O4 B4 hz4
    go_wp2_with fail
    refine (sameWords_any s6 s8 d6 d8 n0 n0 (runL x0 sc).2 (runL x0 sc).2 w5 (O5.out.rdAt 6 rfl) (O5.out.rdAt 8 rfl) (by rw [runL_snd_length, K0.out.2.1]) (by rw [runL_snd_length, K0.out.2.1]) (by omega) (by omega) true (by simp)).mono ?_
    rintro e w6 ⟨rfl, hb6⟩
    have B6 := Lib.hid (Below.more B5.out hb6 hz5)
    clear hb6 O5 B5 hz5
    go_wp2
    go_ret
    exact ⟨rfl, B6.out⟩
end Go.Proofs.Ytjjmjjbeecmmlaa
