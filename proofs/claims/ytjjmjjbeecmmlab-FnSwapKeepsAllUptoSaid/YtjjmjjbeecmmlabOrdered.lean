/-
  The contract of laws.ordered: the same numbers, in order.
-/
import Derived.Test.YtjjmjjbeecmmlabGrow
import Derived.Test.YtjjmjjbeecmmlabSwapPlain
namespace Go.Proofs.Ytjjmjjbeecmmlab
set_option linter.unusedVariables false
set_option linter.unusedSimpArgs false
open Go.RowKit

/-- In order below i, but for the number at k, which may be less than those before it. -/
def SortedBut (ys : List (BitVec 64)) (i k : Nat) : Prop := ∀ p q, p < q → q < i → ¬ q = k → (ys.getD p 0).toNat ≤ (ys.getD q 0).toNat
def swapAt (ys : List (BitVec 64)) (k : Nat) : List (BitVec 64) := (ys.set (k + 1) (ys.getD k 0)).set k (ys.getD (k + 1) 0)

section
variable {ys : List (BitVec 64)} {i j k : Nat}
theorem swapAt_length : (swapAt ys k).length = ys.length := by simp [swapAt]
theorem swapAt_perm (h : k + 1 < ys.length) : (swapAt ys k).Perm ys := by
  have h1 := set_perm ys (k + 1) (ys.getD k 0) h
  have h2 := set_perm (ys.set (k + 1) (ys.getD k 0)) k (ys.getD (k + 1) 0) (by simp; omega)
  have e : (ys.set (k + 1) (ys.getD k 0)).getD k 0 = ys.getD k 0 := getD_set_other (by omega) _
  rw [e] at h2
  exact List.Perm.cons_inv (h2.trans h1)
theorem swapAt_get (h : k + 1 < ys.length) (j : Nat) : (swapAt ys k).getD j 0 = if j = k then ys.getD (k + 1) 0 else if j = k + 1 then ys.getD k 0 else ys.getD j 0 := by
  unfold swapAt
  by_cases h1 : j = k
  · subst h1
    rw [if_pos rfl, getD_set_self (by simp; omega)]
  · rw [if_neg h1, getD_set_other (fun e => h1 e.symm)]
    by_cases h2 : j = k + 1
    · subst h2
      rw [if_pos rfl, getD_set_self (by omega)]
    · rw [if_neg h2, getD_set_other (fun e => h2 e.symm)]
theorem SortedBut.swap (h : SortedBut ys i (k + 1)) (hi : i ≤ ys.length) (hk : k + 1 < i) (hlt : (ys.getD (k + 1) 0).toNat < (ys.getD k 0).toNat) : SortedBut (swapAt ys k) i k := by
  intro p q hpq hq hqk
  rw [swapAt_get (by omega), swapAt_get (by omega), if_neg hqk]
  by_cases q1 : q = k + 1
  · subst q1
    rw [if_pos rfl]
    by_cases p0 : p = k
    · rw [if_pos p0]
      omega
    · rw [if_neg p0, if_neg (by omega)]
      exact h p k (by omega) (by omega) (by omega)
  · rw [if_neg q1]
    by_cases p0 : p = k
    · rw [if_pos p0]
      exact h (k + 1) q (by omega) hq q1
    · rw [if_neg p0]
      by_cases p1 : p = k + 1
      · rw [if_pos p1]
        exact h k q (by omega) hq q1
      · rw [if_neg p1]
        exact h p q hpq hq q1
theorem SortedBut.done (h : SortedBut ys i (k + 1)) (hge : ¬ (ys.getD (k + 1) 0).toNat < (ys.getD k 0).toNat) (j : Nat) (hki : k + 1 < i) : SortedBut ys i j := by
  intro p q hpq hq _
  by_cases q1 : q = k + 1
  · subst q1
    by_cases p0 : p = k
    · subst p0
      omega
    · have := h p k (by omega) (by omega) (by omega)
      omega
  · exact h p q hpq hq q1
theorem SortedBut.first (h : SortedBut ys i 0) (j : Nat) : SortedBut ys i j := fun p q hpq hq _ => h p q hpq hq (by omega)
theorem SortedBut.next (h : SortedBut ys i j) (hj : i ≤ j) : SortedBut ys (i + 1) i := fun p q hpq hq hqi => h p q hpq (by omega) (by omega)
theorem SortedBut.all (h : SortedBut ys ys.length j) (hj : ys.length ≤ j) : ys.Pairwise (fun a b => a.toNat ≤ b.toNat) := by
  rw [List.pairwise_iff_getElem]
  intro p q hp hq hpq
  have := h p q hpq hq (by omega)
  simpa [hp, hq] using this
end

/-- What a call of ordered leaves. -/
def Ordered (w : World) (n : Nat) (xs : List (BitVec 64)) (e : Ending) (w' : World) : Prop :=
  ∃ a c ys, e = .returned (.slice a n c) ∧ (ys.Perm xs ∧ ys.Pairwise (fun a b => a.toNat ≤ b.toNat)) ∧ Owns w' w.heap.size [⟨28, a, n, c, U ys⟩] ∧ Below w.heap.size w w'

set_option maxHeartbeats 1600000 in
set_option maxRecDepth 100000 in
theorem ordered_any (a : Option Addr) (ca n : Nat) (xs : List (BitVec 64)) (w : World) (hx : Rd w a (U xs)) (hn : xs.length = n) (hnil : a = none → ca = 0) (bn : n ≤ 17592186043904) :
    Calls Try.prog 13 #[.slice a n ca] w (Ordered w n xs) := by
  have HC := Lib.hid (copied_any a ca n xs w hx hn hnil bn)
  have HN := Lib.hid hn
  clear hx hn hnil
  go_enter Try.func13, Try.ntmps13
  go_wp2_with fail
  refine HC.out.mono ?_
  rintro e w1 ⟨s0, d0, rfl, ho, hb⟩
  have O1 := Lib.hid ho; have B1 := Lib.hid hb
  clear ho hb HC
  go_wp2
  go_loopw [11] (fun i wr => ∃ (k : Nat) (ys : List (BitVec 64)), k ≤ n ∧ i = .int .i64 k ∧ ys.Perm xs ∧ ys.length = n ∧ SortedBut ys k n ∧ Owns wr w.heap.size [⟨28, s0, n, d0, U ys⟩] ∧ Below w.heap.size w wr) (fun i _ => n - (intOf i).toNat)
  case atStart => exact ⟨0, xs, Nat.zero_le _, rfl, .refl _, HN.out, fun p q _ h => by omega, O1.out, B1.out⟩
  case round =>
    clear O1 B1
    obtain ⟨i, ys, hi, rfl, hpm, hyl, hso, ho, hb⟩ := hrel
    by_cases hlt : i < n
    · have HO := Lib.hid ho; have HB := Lib.hid hb; have HPM := Lib.hid hpm; have HYL := Lib.hid hyl; have HSO := Lib.hid (hso.next hi)
      clear ho hb hpm hyl hso
      obtain ⟨w2, rfl⟩ : ∃ w2 : World, w2 = wr := ⟨_, rfl⟩
      go_wp2
      go_loopw [5] (fun j wr => ∃ (k : Nat) (ys : List (BitVec 64)), k ≤ i ∧ j = .int .i64 k ∧ ys.Perm xs ∧ ys.length = n ∧ SortedBut ys (i + 1) k ∧ Owns wr w.heap.size [⟨28, s0, n, d0, U ys⟩] ∧ Below w.heap.size w wr) (fun j _ => (intOf j).toNat)
      case atStart => exact ⟨i, ys, Nat.le_refl _, rfl, HPM.out, HYL.out, HSO.out, HO.out, HB.out⟩
      case round =>
        clear HO HB HPM HYL HSO
        obtain ⟨k, ys, hk, rfl, hpm, hyl, hso, ho, hb⟩ := hrel
        cases k with
        | zero =>
          have HO := Lib.hid ho; have HB := Lib.hid hb; have HPM := Lib.hid hpm; have HYL := Lib.hid hyl; have HSO := Lib.hid (hso.first n)
          clear ho hb hpm hyl hso
          go_wp2
          go_quiet (fail)
          go_wp2
          go_roundw
          case rel => exact ⟨i + 1, ys, by omega, by go_num, HPM.out, HYL.out, HSO.out, HO.out.drewN _, below_drewN HB.out _⟩
          case measure => simp [intOf]; omega
        | succ k =>
          have l1 : k + 1 < ys.length := by omega
          have l0 : k < ys.length := by omega
          obtain ⟨b, rfl⟩ := ho.addr 0 rfl (k := k) (by simpa using l0)
          have q1 := ho.get64 0 rfl l1
          have q0 := ho.get64 0 rfl l0
          have g1 : ys.getD (k + 1) 0 = ys[k + 1] := by simp [l1]
          have g0 : ys.getD k 0 = ys[k] := by simp [l0]
          obtain ⟨y, hy⟩ : ∃ y, ys[k + 1] = y := ⟨_, rfl⟩
          obtain ⟨x, hx⟩ : ∃ x, ys[k] = x := ⟨_, rfl⟩
          rw [hy] at q1 g1
          rw [hx] at q0 g0
          have HPM := Lib.hid hpm; have HYL := Lib.hid hyl; have HSO := Lib.hid hso
          by_cases hc : y.toNat < x.toNat
          · have HS := Lib.hid (hso.swap (by omega) (by omega) (by rw [g1, g0]; exact hc))
            have HW : Hid (swapAt ys k = (ys.set (k + 1) x).set k y) := by refine Lib.hid ?_; unfold swapAt; rw [g0, g1]
            have HPM2 : Hid ((swapAt ys k).Perm xs) := (swapAt_perm l1).trans hpm
            have HY := Lib.hid hy; have HX := Lib.hid hx
            have HO := Lib.hid ho; have HB := Lib.hid hb
            have c1 : ((k : Int) + 1 - 1).toNat = k := by omega
            have c2 : ((k : Int) + 1).toNat = k + 1 := by omega
            clear ho hb hpm hyl hso hy hx g0 g1
            go_wp2
            go_quiet (fail)
            have HOq := Lib.hid (HO.out.drewN nq); have HBq := Lib.hid (below_drewN HB.out nq)
            generalize hwq : wr.drewN nq = wq at HOq HBq ⊢
            clear hwq q1 q0 HO HB
            have q1 := HOq.out.get64 0 rfl l1
            have q0 := HOq.out.get64 0 rfl l0
            rw [HY.out] at q1
            rw [HX.out] at q0
            have f1 := HOq.out.free 0 rfl (k + 1)
            obtain ⟨hoA, hbA⟩ := Owns.stored (p := []) HOq.out rfl (k + 1) (.int .u64 (x.toNat : Int))
            obtain ⟨uA, huA⟩ := hoA.has 0 rfl (k := k) (by simpa using l0)
            have fA := hoA.free 0 rfl k
            obtain ⟨hoB, hbB⟩ := Owns.stored (p := []) hoA rfl k (.int .u64 (y.toNat : Int))
            have HOD : Hid (Owns ((wq.setCell ⟨b, k + 1, none⟩ (.int .u64 (x.toNat : Int))).setCell ⟨b, k, none⟩ (.int .u64 (y.toNat : Int))) w.heap.size [⟨28, some ⟨b, 0, none⟩, n, d0, U (swapAt ys k)⟩]) := by
              refine Lib.hid ?_
              rw [HW.out, ← U_set, ← U_set]
              exact hoB
            have HBD := Lib.hid (HBq.out.trans (hbA.trans hbB))
            clear hoA hbA hoB hbB HOq HBq
            go_wp2
            go_roundw
            case rel => exact ⟨k, swapAt ys k, by omega, by go_num, HPM2.out, by rw [swapAt_length, HYL.out], HS.out, HOD.out, HBD.out⟩
            case measure => simp [intOf]
          · have HE := Lib.hid (hso.done (by rw [g1, g0]; exact hc) n (by omega))
            have HO := Lib.hid ho; have HB := Lib.hid hb
            have c1 : ((k : Int) + 1 - 1).toNat = k := by omega
            have c2 : ((k : Int) + 1).toNat = k + 1 := by omega
            clear ho hb hpm hyl hso hy hx g0 g1
            go_wp2
            go_quiet (fail)
            go_wp2
            go_roundw
            case rel => exact ⟨i + 1, ys, by omega, by go_num, HPM.out, HYL.out, HE.out, HO.out.drewN _, below_drewN HB.out _⟩
            case measure => simp [intOf]; omega
    · have hin : n = i := by omega
      subst hin
      have HO := Lib.hid ho; have HB := Lib.hid hb
      have HPM := Lib.hid hpm
      have HSO := Lib.hid (SortedBut.all (j := n) (ys := ys) (by rw [hyl]; exact hso) (by omega))
      clear ho hb hpm hyl hso
      go_wp2
      go_ret
      exact ⟨s0, d0, ys, rfl, ⟨HPM.out, HSO.out⟩, HO.out, HB.out⟩
end Go.Proofs.Ytjjmjjbeecmmlab
