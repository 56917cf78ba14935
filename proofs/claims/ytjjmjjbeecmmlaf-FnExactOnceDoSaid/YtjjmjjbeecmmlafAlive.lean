/-
  The contract of oAlive; plain facts of the groups.
-/
import Derived.Test.YtjjmjjbeecmmlafDo
import Derived.Test.YtjjmjjbeecmmlafFrame
namespace Go.Proofs.Ytjjmjjbeecmmlaf
set_option linter.unusedVariables false
set_option linter.unusedSimpArgs false
open Go.RowKit

def Came8i (w : World) (a : Option Addr) (n c : Nat) (xs : List (BitVec 8)) : Prop := Rd w a (I8 xs) ∧ xs.length = n ∧ n ≤ c ∧ (a = none → c = 0)
theorem Came.i8 {w : World} {a : Option Addr} {n c : Nat} {xs : List (BitVec 8)} (h : Came w a n c (I8 xs)) : Came8i w a n c xs := ⟨h.1, by simpa [I8] using h.2.1, h.2.2⟩
theorem I8_take {xs : List (BitVec 8)} {n : Nat} : (I8 xs).take n = I8 (xs.take n) := by simp [I8]
theorem U_take {xs : List (BitVec 64)} {n : Nat} : (U xs).take n = U (xs.take n) := by simp [U]

theorem doAt_lt {G : List Nat} {X : List (BitVec 64)} : ∀ {k x : Nat}, x ∈ (doAt G X k).1 → x < k := by
  intro k
  induction k with
  | zero => intro x h; simp [doAt] at h
  | succ k ih =>
    intro x h
    rw [doAt_succ] at h
    unfold doStep at h
    split at h
    · have := ih h; omega
    · simp only [List.mem_append, List.mem_singleton] at h
      rcases h with h | h
      · have := ih h; omega
      · omega
theorem doStep_old {G : List Nat} {X : List (BitVec 64)} {t : List Nat × BitVec 64} {i : Nat} (h : G.getD i 0 ∈ t.1.map (G.getD · 0)) : doStep G X t i = t := by unfold doStep; rw [if_pos h]
theorem doStep_new {G : List Nat} {X : List (BitVec 64)} {t : List Nat × BitVec 64} {i : Nat} (h : ¬ G.getD i 0 ∈ t.1.map (G.getD · 0)) : doStep G X t i = (t.1 ++ [i], t.2 + X.getD i 0) := by unfold doStep; rw [if_neg h]

theorem alive_seen : seenDo [129] [(7 : BitVec 64)] 1 = [7] := by simp [seenDo, doAt, doStep, List.range_succ]
theorem alive_ran : (doAt [129] [(7 : BitVec 64)] 1).1 = [0] := by simp [doAt, doStep, List.range_succ]
theorem alive_places : places [1] = [129] := by simp [places]
theorem alive_i8 : [Value.int .i8 1] = I8 [1] := by simp [I8]
theorem alive_u64 : [Value.int .u64 7] = U [7] := by simp [U]

set_option maxHeartbeats 800000 in
set_option maxRecDepth 100000 in
theorem oAlive_any (w : World) : Calls Try.prog 21 #[] w fun e w' => e = .returned (.bool true) ∧ Below w.heap.size w w' := by
  have O2 := Lib.hid (((Owns.nil w w.heap.size).made (Nat.le_refl _) 37 #[.int .i8 1] (by simp [maxLen])).made (by simp) 36 #[.int .u64 7] (by simp [maxLen]))
  have B2 := Lib.hid (((Below.refl w.heap.size w).alloc (Nat.le_refl _) (.cells #[.int .i8 1] 37)).alloc (by simp) (.cells #[.int .u64 7] 36))
  have hz2 := Lib.hid B2.out.size
  have HC : Hid (Calls Try.prog 11 #[.slice (some ⟨w.heap.size, 0, none⟩) 1 1, .slice (some ⟨w.heap.size + 1, 0, none⟩) 1 1] ((w.alloc (.cells #[.int .i8 1] 37)).alloc (.cells #[.int .u64 7] 36)) (Done ((w.alloc (.cells #[.int .i8 1] 37)).alloc (.cells #[.int .u64 7] 36)) 1 [7] [0])) := by
    have h0 := O2.out.rdAt 0 rfl
    have h1 := O2.out.rdAt 1 rfl
    replace h0 : Rd ((w.alloc (.cells #[.int .i8 1] 37)).alloc (.cells #[.int .u64 7] 36)) (some ⟨w.heap.size, 0, none⟩) [Value.int .i8 1] := h0
    replace h1 : Rd ((w.alloc (.cells #[.int .i8 1] 37)).alloc (.cells #[.int .u64 7] 36)) (some ⟨(w.alloc (.cells #[.int .i8 1] 37)).heap.size, 0, none⟩) [Value.int .u64 7] := h1
    have hs1 : (w.alloc (.cells #[.int .i8 1] 37)).heap.size = w.heap.size + 1 := by simp
    rw [hs1] at h1
    refine Lib.hid ?_
    generalize (w.alloc (.cells #[.int .i8 1] 37)).alloc (.cells #[.int .u64 7] 36) = wv at *
    rw [alive_i8] at h0
    rw [alive_u64] at h1
    exact onceDo_any wv _ _ 1 1 1 1 1 [1] [7] rfl h0 rfl h1 (by omega) (by omega) (by omega) [129] alive_places [7] alive_seen [0] alive_ran
  go_enter Try.func21, Try.ntmps21
  go_wp2_with fail
  refine HC.out.mono ?_
  rintro e w3 ⟨sa, sc, ra, rc, rfl, ho, hb⟩
  have O3 := Lib.hid (O2.out.more hb ho hz2.out); have B3 := Lib.hid (Below.more B2.out hb hz2.out)
  clear ho hb O2 B2 hz2 HC
  obtain ⟨b0, rfl⟩ := O3.out.addr 2 rfl (k := 0) (by simp)
  have q := O3.out.get64 2 rfl (k := 0) (by simp)
  replace q : w3.cell? ⟨b0, 0 + 0, none⟩ = some (.int .u64 7) := q
  go_wp2
  try go_quiet (fail)
  try go_wp2
  go_ret
  exact ⟨rfl, by first | exact B3.out | exact below_drewN B3.out _⟩
end Go.Proofs.Ytjjmjjbeecmmlaf
