/-
  The contracts of lowHalf and highHalf, and the carry.
-/
import Derived.Test.YtjciefonlhhoaaaRun32
namespace Go.Proofs.Ytjciefonlhhoaaa
set_option linter.unusedVariables false
set_option linter.unusedSimpArgs false
open Go.RowKit

def lo (x : BitVec 64) : BitVec 32 := BitVec.ofNat 32 x.toNat
def hi (x : BitVec 64) : BitVec 32 := BitVec.ofNat 32 (x.toNat / 4294967296)
theorem lo_toNat (x : BitVec 64) : (lo x).toNat = x.toNat % 4294967296 := by simp [lo]
theorem hi_toNat (x : BitVec 64) : (hi x).toNat = x.toNat / 4294967296 := by
  have := x.isLt
  simp only [hi, BitVec.toNat_ofNat]
  omega
theorem lowHalf_any (x : BitVec 64) (w : World) : Calls Try.prog 5 #[.int .u64 (x.toNat : Int)] w fun e w' => e = .returned (.int .u32 ((lo x).toNat : Int)) ∧ w' = w := by
  have hw : IntKind.u32.wrap (x.toNat : Int) = ((lo x).toNat : Int) := by rw [IntKind.wrap_u32, lo_toNat]; simp
  go_enter Try.func5, Try.ntmps5
  go_wp2
  go_ret
  exact ⟨rfl, rfl⟩
theorem highHalf_any (x : BitVec 64) (w : World) : Calls Try.prog 6 #[.int .u64 (x.toNat : Int)] w fun e w' => e = .returned (.int .u32 ((hi x).toNat : Int)) ∧ w' = w := by
  have hd : (x.toNat : Int) / 4294967296 = ((hi x).toNat : Int) := by rw [hi_toNat]; simp
  have hw : IntKind.u32.wrap ((hi x).toNat : Int) = ((hi x).toNat : Int) := u32_bits _
  go_enter Try.func6, Try.ntmps6
  go_wp2
  go_ret
  exact ⟨rfl, rfl⟩

/-- The carry of the lower halves. -/
def carry (s x : BitVec 64) : BitVec 32 := if (lo s + lo x).toNat < (lo x).toNat then 1 else 0
theorem carried_lo (s x : BitVec 64) : lo (s + x) = lo s + lo x := by
  apply BitVec.eq_of_toNat_eq
  rw [lo_toNat, BitVec.toNat_add, BitVec.toNat_add, lo_toNat, lo_toNat]
  omega
theorem carried_hi (s x : BitVec 64) : hi (s + x) = hi s + (hi x + carry s x) := by
  have h1 := s.isLt
  have h2 := x.isLt
  apply BitVec.eq_of_toNat_eq
  unfold carry
  rw [hi_toNat, BitVec.toNat_add, BitVec.toNat_add, BitVec.toNat_add, hi_toNat, hi_toNat]
  split
  · rename_i h
    rw [BitVec.toNat_add, lo_toNat, lo_toNat] at h
    rw [show (1 : BitVec 32).toNat = 1 from rfl]
    omega
  · rename_i h
    rw [BitVec.toNat_add, lo_toNat, lo_toNat] at h
    rw [show (0 : BitVec 32).toNat = 0 from rfl]
    omega
theorem halves_or (s : BitVec 64) : BitVec.ofNat 64 ((hi s).toNat * 4294967296) ||| BitVec.ofNat 64 (lo s).toNat = s := by
  have h1 := s.isLt
  apply BitVec.eq_of_toNat_eq
  rw [BitVec.toNat_or, BitVec.toNat_ofNat, BitVec.toNat_ofNat, hi_toNat, lo_toNat]
  rw [Nat.mod_eq_of_lt (by omega), Nat.mod_eq_of_lt (by omega)]
  have h2 := Nat.shiftLeft_add_eq_or_of_lt (b := s.toNat % 4294967296) (i := 32) (by omega) (s.toNat / 4294967296)
  rw [Nat.shiftLeft_eq] at h2
  simp only [Nat.reducePow] at h2
  rw [← h2]
  omega
end Go.Proofs.Ytjciefonlhhoaaa
