/-
  The contract of laws.call: one call over the cells that came in, and the cells then.
-/
import Derived.Test.YtjjmjjbeecmmlacOwn
namespace Go.Proofs.Ytjjmjjbeecmmlac
set_option linter.unusedVariables false
set_option linter.unusedSimpArgs false
open Go.RowKit

/-- What call leaves. -/
def Answered (w : World) (n : Nat) (ans : BitVec 64) (st : List (BitVec 64)) (en : Ending) (w' : World) : Prop :=
  ∃ a c, en = .returned (.tuple #[.int .u64 (ans.toNat : Int), .slice a n c, .bool true]) ∧ Owns w' w.heap.size [⟨22, a, n, c, U st⟩] ∧ Below w.heap.size w w'

set_option maxHeartbeats 1600000 in
set_option maxRecDepth 100000 in
theorem call_any (w : World) (a0 : Option Addr) (c0 n : Nat) (st : List (BitVec 64)) (κ : BitVec 8) (cl : Nat) (x y : BitVec 64) {v1 v2 v3 v4 : Value} (h1 : v1 = .int .u8 (κ.toNat : Int)) (h2 : v2 = .int .i64 (cl : Int)) (h3 : v3 = .int .u64 (x.toNat : Int)) (h4 : v4 = .int .u64 (y.toNat : Int))
    (hst : st.length = n) (r0 : Rd w a0 (U st)) (hnil : a0 = none → c0 = 0) (bn : n ≤ 17592186043904) (hcl : cl < n) (ans : BitVec 64) (st' : List (BitVec 64)) (ha : ((⟨κ, cl, x, y⟩ : Call 64).step (st.getD cl 0)).1 = ans) (hs : st.set cl ((⟨κ, cl, x, y⟩ : Call 64).step (st.getD cl 0)).2 = st') :
    Calls Try.prog 9 #[.slice a0 n c0, v1, v2, v3, v4] w (Answered w n ans st') := by
  subst h1 h2 h3 h4
  have HST := Lib.hid hst; have R0 := Lib.hid r0; have HN := Lib.hid hnil
  have HR : Hid (runL st [⟨κ, cl, x, y⟩] = ([ans], st')) := by show _ = _; simp only [runL, ha, hs]
  clear hst r0 hnil ha hs
  have t1 : ((n : Int) != (n : Int)) = false := by simp
  have O0 := Lib.hid (Owns.nil w w.heap.size); have B0 := Lib.hid (Below.refl w.heap.size w)
  have hz0 : w.heap.size ≤ w.heap.size := Nat.le_refl _
  go_enter Try.func9, Try.ntmps9
  go_wp2_with fail
  refine (copied_any a0 c0 n st w R0.out HST.out HN.out bn).mono ?_
  rintro e w1 ⟨s0, d0, rfl, ho, hb⟩
  have O1 := Lib.hid (O0.out.more hb ho hz0); have B1 := Lib.hid (Below.more B0.out hb hz0)
  have hz1 : w.heap.size ≤ w1.heap.size := B1.out.size
  clear ho hb O0 B0 hz0
  have O2 : Hid (Owns ((((w1.alloc (.cells #[.int .u8 (κ.toNat : Int)] 5)).alloc (.cells #[.int .i64 (cl : Int)] 3)).alloc (.cells #[.int .u64 (x.toNat : Int)] 22)).alloc (.cells #[.int .u64 (y.toNat : Int)] 22)) w.heap.size
      [⟨22, s0, n, d0, U st⟩, ⟨5, some ⟨w1.heap.size, 0, none⟩, 1, 1, U8 (kindsOf [(⟨κ, cl, x, y⟩ : Call 64)])⟩, ⟨3, some ⟨w1.heap.size + 1, 0, none⟩, 1, 1, NI (cellsOf [(⟨κ, cl, x, y⟩ : Call 64)])⟩, ⟨22, some ⟨w1.heap.size + 1 + 1, 0, none⟩, 1, 1, U (asOf [(⟨κ, cl, x, y⟩ : Call 64)])⟩, ⟨22, some ⟨w1.heap.size + 1 + 1 + 1, 0, none⟩, 1, 1, U (bsOf [(⟨κ, cl, x, y⟩ : Call 64)])⟩]) := by
    refine Lib.hid ?_
    have := (((O1.out.made hz1 5 #[.int .u8 (κ.toNat : Int)] (by simp [maxLen])).made (by simp; omega) 3 #[.int .i64 (cl : Int)] (by simp [maxLen])).made (by simp; omega) 22 #[.int .u64 (x.toNat : Int)] (by simp [maxLen])).made (by simp; omega) 22 #[.int .u64 (y.toNat : Int)] (by simp [maxLen])
    simpa [U, U8, NI, kindsOf, cellsOf, asOf, bsOf] using this
  have B2 : Hid (Below w.heap.size w ((((w1.alloc (.cells #[.int .u8 (κ.toNat : Int)] 5)).alloc (.cells #[.int .i64 (cl : Int)] 3)).alloc (.cells #[.int .u64 (x.toNat : Int)] 22)).alloc (.cells #[.int .u64 (y.toNat : Int)] 22))) :=
    (((B1.out.alloc hz1 _).alloc (by simp; omega) _).alloc (by simp; omega) _).alloc (by simp; omega) _
  have hz2 : w.heap.size ≤ ((((w1.alloc (.cells #[.int .u8 (κ.toNat : Int)] 5)).alloc (.cells #[.int .i64 (cl : Int)] 3)).alloc (.cells #[.int .u64 (x.toNat : Int)] 22)).alloc (.cells #[.int .u64 (y.toNat : Int)] 22)).heap.size := B2.out.size
  have HZ2 := Lib.hid hz2
  clear O1 B1 hz1 hz2
  go_wp2_with fail
  refine (run64_any _ s0 _ _ _ _ d0 1 1 1 1 n 1 st [⟨κ, cl, x, y⟩] HST.out rfl (O2.out.rdAt 0 rfl) (O2.out.rdAt 1 rfl) (O2.out.rdAt 2 rfl) (O2.out.rdAt 3 rfl) (O2.out.rdAt 4 rfl) bn (by omega) (by simpa using hcl)).mono ?_
  rintro e w3 ⟨s5, d5, s6, d6, rfl, ho, hb⟩
  rw [HR.out] at ho
  have B3 := Lib.hid (Below.more B2.out hb HZ2.out)
  obtain ⟨b, rfl⟩ := ho.addr 0 rfl (k := 0) (by simp)
  have q0 := ho.get64 0 rfl (k := 0) (by simp)
  simp only [List.getElem_cons_zero] at q0
  have O3 := Lib.hid ((ho.base HZ2.out).drop (L' := [⟨22, s6, n, d6, U st'⟩]) (by simp))
  clear ho hb O2 B2 HZ2
  go_wp2
  go_ret3
  exact ⟨s6, d6, rfl, O3.out, B3.out⟩
end Go.Proofs.Ytjjmjjbeecmmlac
