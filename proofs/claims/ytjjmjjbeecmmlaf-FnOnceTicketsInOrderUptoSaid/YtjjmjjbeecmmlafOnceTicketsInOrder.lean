/-
  The walk of FnOnceTicketsInOrder: each function returns the how manieth one it was that was called first.
-/
import Derived.Test.YtjjmjjbeecmmlafOFns
import Derived.Test.YtjjmjjbeecmmlafTickets1
import Derived.Test.YtjjmjjbeecmmlafFrame
namespace Go.Proofs.Ytjjmjjbeecmmlaf
set_option linter.unusedVariables false
set_option linter.unusedSimpArgs false
open Go.RowKit

theorem i64_and (y : Int) : ∃ u : Nat, u ≤ 65535 ∧ bits .and .i64 y 65535 = (u : Int) := by
  have h : (BitVec.ofInt 64 y &&& 65535#64).toNat ≤ 65535 := by rw [BitVec.toNat_and]; exact Nat.and_le_right
  refine ⟨_, h, ?_⟩
  show IntKind.i64.wrap ((BitVec.ofInt 64 y &&& BitVec.ofInt 64 65535).toNat : Int) = _
  rw [show BitVec.ofInt 64 65535 = 65535#64 from rfl]
  generalize (BitVec.ofInt 64 y &&& 65535#64).toNat = v at h
  rw [IntKind.wrap_i64]
  omega

section
variable {n : Nat} {calls : List Nat}
theorem tickets_firsts (k : Nat) : (onceAt ticketsAct n 0 0 calls k).1 = firsts (calls.take k) := by
  unfold onceAt firsts
  have : ∀ (l : List Nat) (t : List Nat × List (BitVec 64) × BitVec 64), (l.foldl (onceStep ticketsAct) t).1 = l.foldl (fun a i => if i ∈ a then a else a ++ [i]) t.1 := by
    intro l
    induction l with
    | nil => intro t; rfl
    | cons x l ih => intro t; rw [List.foldl_cons, List.foldl_cons, ih, onceStep_fst]
  rw [this]

theorem tickets_state (hc : ∀ i ∈ calls, i < n) : ∀ k, k ≤ calls.length → (onceAt ticketsAct n 0 0 calls k).2.2 = BitVec.ofNat 64 (onceAt ticketsAct n 0 0 calls k).1.length ∧ ∀ p i, (onceAt ticketsAct n 0 0 calls k).1[p]? = some i → (onceAt ticketsAct n 0 0 calls k).2.1.getD i 0 = BitVec.ofNat 64 (p + 1) := by
  intro k
  induction k with
  | zero => intro _; exact ⟨rfl, by intro p i h; simp [onceAt_zero] at h⟩
  | succ k ih =>
    intro hk
    obtain ⟨h1, h2⟩ := ih (by omega)
    have hin : calls[k] < n := hc _ (List.getElem_mem _)
    rw [onceAt_succ (by omega) rfl]
    have hl : (onceAt ticketsAct n 0 0 calls k).2.1.length = n := onceAt_length
    generalize onceAt ticketsAct n 0 0 calls k = t at h1 h2 hl ⊢
    generalize calls[k] = i at hin ⊢
    by_cases hm : i ∈ t.1
    · rw [onceStep_old hm]
      exact ⟨h1, h2⟩
    · rw [onceStep_new hm]
      simp only [ticketsAct]
      have e1 : t.2.2 + 1 = BitVec.ofNat 64 (t.1.length + 1) := by
        rw [h1]
        apply BitVec.eq_of_toNat_eq
        simp
      refine ⟨by rw [e1]; simp, ?_⟩
      intro p j hp
      rw [List.getElem?_append] at hp
      split at hp
      · have hj : j ∈ t.1 := List.mem_of_getElem? hp
        have hji : ¬ i = j := fun e => hm (e ▸ hj)
        simp only [List.getD_eq_getElem?_getD, List.getElem?_set, if_neg hji]
        have := h2 p j hp
        rw [List.getD_eq_getElem?_getD] at this
        exact this
      · rename_i hlt
        have hp0 : p - t.1.length = 0 := by
          by_cases h0 : p - t.1.length = 0
          · exact h0
          · obtain ⟨q, hq⟩ : ∃ q, p - t.1.length = q + 1 := ⟨p - t.1.length - 1, by omega⟩
            rw [hq] at hp
            simp at hp
        rw [hp0] at hp
        simp at hp
        subst hp
        simp only [List.getD_eq_getElem?_getD]
        rw [List.getElem?_set_self (by omega), Option.getD_some, e1]
        congr 2
        omega

theorem firsts_mono {k : Nat} : ∃ t, firsts calls = firsts (calls.take k) ++ t := by
  have : ∀ (l a : List Nat), ∃ t, l.foldl (fun a i => if i ∈ a then a else a ++ [i]) a = a ++ t := by
    intro l
    induction l with
    | nil => intro a; exact ⟨[], by simp⟩
    | cons x l ih =>
      intro a
      rw [List.foldl_cons]
      obtain ⟨t, ht⟩ := ih (if x ∈ a then a else a ++ [x])
      by_cases h : x ∈ a
      · rw [if_pos h] at ht ⊢; exact ⟨t, ht⟩
      · rw [if_neg h] at ht ⊢; exact ⟨[x] ++ t, by rw [ht]; simp⟩
  obtain ⟨t, ht⟩ := this (calls.drop k) (firsts (calls.take k))
  refine ⟨t, ?_⟩
  rw [← ht]
  conv => lhs; rw [← List.take_append_drop k calls]
  unfold firsts
  rw [List.foldl_append]

theorem tickets_at (hc : ∀ i ∈ calls, i < n) {k i : Nat} (hk : k < calls.length) (hi : calls[k] = i) : ∃ p, (firsts calls)[p]? = some i ∧ (onceAt ticketsAct n 0 0 calls (k + 1)).2.1.getD i 0 = BitVec.ofNat 64 (p + 1) := by
  have hm : i ∈ (onceAt ticketsAct n 0 0 calls (k + 1)).1 := by rw [onceAt_succ hk hi]; exact onceStep_mem
  obtain ⟨p, hp⟩ := List.getElem?_of_mem hm
  refine ⟨p, ?_, (tickets_state hc (k + 1) (by omega)).2 p i hp⟩
  rw [tickets_firsts] at hp
  obtain ⟨t, ht⟩ := firsts_mono (calls := calls) (k := k + 1)
  rw [ht, List.getElem?_append_left (List.getElem?_eq_some_iff.1 hp).1]
  exact hp

theorem tickets_total (hc : ∀ i ∈ calls, i < n) {m : Nat} (hm : calls.length = m) : (onceAt ticketsAct n 0 0 calls m).2.2 = BitVec.ofNat 64 (firsts calls).length := by
  rw [(tickets_state hc m (by omega)).1, tickets_firsts, List.take_of_length_le (by omega)]
end

set_option maxHeartbeats 3200000 in
set_option maxRecDepth 100000 in
theorem fnOnceTicketsInOrder_any (w : World) (y0 : Int) (b0 : -9223372036854775808 ≤ y0 ∧ y0 ≤ 9223372036854775807) (a1 : Option Addr) (n1 c1 : Nat) (x1 : List (BitVec 8)) (k1 : Came w a1 n1 c1 (U8 x1)) (bd : n1 ≤ 1048576) :
    Calls Try.prog 6 #[.int .i64 y0, .slice a1 n1 c1] w fun e w' => e = .returned (.bool true) ∧ Below w.heap.size w w' := by
  have K1 := Lib.hid k1.u8
  clear k1
  obtain ⟨u, hu, hand⟩ := i64_and y0
  obtain ⟨N, hN⟩ : ∃ N, 1 + u % 20 = N := ⟨_, rfl⟩
  have bN : 1 ≤ N ∧ N ≤ 20 := by omega
  have hNi : 1 + (u : Int) % 20 = (N : Int) := by rw [← hN]; simp
  clear b0 hN
  obtain ⟨calls, hcalls⟩ : ∃ l, oCalls x1 N = l := ⟨_, rfl⟩
  obtain ⟨m, hm⟩ : ∃ m, calls.length = m := ⟨_, rfl⟩
  have bm : m ≤ 1048576 := by
    rw [← hm, ← hcalls]
    unfold oCalls
    split
    · simp
    · simp [K1.out.2.1]; omega
  have HC := Lib.hid hcalls; have HM := Lib.hid hm
  have HCN : Hid (∀ i ∈ calls, i < N) := by refine Lib.hid ?_; rw [← hcalls]; exact oCalls_lt
  clear hcalls hm
  obtain ⟨FI, hFI⟩ : ∃ l, firsts calls = l := ⟨_, rfl⟩
  obtain ⟨F, hF⟩ : ∃ F, FI.length = F := ⟨_, rfl⟩
  have bF : F ≤ m := by rw [← hF, ← hFI, ← HM.out]; exact firsts_le _
  obtain ⟨outs, houts⟩ : ∃ o, onceOuts ticketsAct N 0 0 calls = o := ⟨_, rfl⟩
  have HOL : Hid (outs.length = m) := by show _ = _; rw [← houts, onceOuts_length, HM.out]
  have HOG : Hid (∀ j i (h : j < outs.length) (h' : j < calls.length), calls[j] = i → ∃ p, FI[p]? = some i ∧ outs[j] = BitVec.ofNat 64 (p + 1)) := by
    refine Lib.hid ?_
    subst houts
    intro j i h h' hi
    rw [onceOuts_get h h' hi, ← hFI]
    exact tickets_at HCN.out h' hi
  obtain ⟨sv, hsv⟩ : ∃ sv, BitVec.ofNat 64 F = sv := ⟨_, rfl⟩
  have HSV : Hid ((onceAt ticketsAct N 0 0 calls m).2.2 = sv) := by show _ = _; rw [tickets_total HCN.out HM.out, hFI, hF, hsv]
  have uF : (sv.toNat : Int) = (F : Int) := by rw [← hsv, BitVec.toNat_ofNat, Nat.mod_eq_of_lt (by omega)]
  have HOO := Lib.hid houts; have HFI := Lib.hid hFI; have HF := Lib.hid hF
  clear houts hFI hF hsv
  have t1 : ((m : Int) != (m : Int)) = false := by simp
  have t2 : ((F : Int) != (F : Int)) = false := by simp
  have O0 := Lib.hid (Owns.nil w w.heap.size); have B0 := Lib.hid (Below.refl w.heap.size w)
  have hz0 : w.heap.size ≤ w.heap.size := Nat.le_refl _
  go_enter Try.func6, Try.ntmps6
  go_wp2_with fail
  refine (oCalls_any w a1 n1 c1 N m x1 calls K1.out.1 K1.out.2.1 (by omega) HC.out HM.out (by omega)).mono ?_
  rintro e w1 ⟨s1, d1, rfl, ho, hb⟩
  have O1 := Lib.hid (O0.out.more hb ho hz0); have B1 := Lib.hid (Below.more B0.out hb hz0)
  have hz1 : w.heap.size ≤ w1.heap.size := B1.out.size
  clear ho hb O0 B0 hz0
  go_wp2_with fail
  refine (onceTickets_any w1 s1 N m d1 calls (by omega) HM.out bm (O1.out.rdAt 0 rfl) HCN.out outs sv HOO.out HSV.out rfl).mono ?_
  rintro e w2 ⟨s2, d2, rfl, ho, hb⟩
  have O2 := Lib.hid (O1.out.more hb ho hz1); have B2 := Lib.hid (Below.more B1.out hb hz1)
  have hz2 : w.heap.size ≤ w2.heap.size := B2.out.size
  clear ho hb O1 B1 hz1
  rw [uF]
  go_wp2_with fail
  refine (oFirsts_any w2 s1 m d1 F calls FI (O2.out.rdAt 0 rfl) HM.out bm HFI.out HF.out).mono ?_
  rintro e w3 ⟨s3, d3, rfl, ho, hb⟩
  have O3 := Lib.hid (O2.out.more hb ho hz2); have B3 := Lib.hid (Below.more B2.out hb hz2)
  have hz3 : w.heap.size ≤ w3.heap.size := B3.out.size
  clear ho hb O2 B2 hz2
  go_wp2
  go_loopw [45] (fun i wr => ∃ j : Nat, j ≤ m ∧ i = .int .i64 j ∧ wr = w3) (fun i _ => m - (intOf i).toNat)
  case atStart => exact ⟨0, Nat.zero_le _, rfl, rfl⟩
  case round =>
    obtain ⟨j, hj, rfl, rfl⟩ := hrel
    by_cases hlt : j < m
    · have lj : j < calls.length := by rw [HM.out]; exact hlt
      have lo : j < outs.length := by rw [HOL.out]; exact hlt
      obtain ⟨i, hij⟩ : ∃ i, calls[j] = i := ⟨_, rfl⟩
      obtain ⟨p, hp, hat⟩ := HOG.out j i lo lj hij
      have lp : p < FI.length := (List.getElem?_eq_some_iff.1 hp).1
      have hpi : FI[p] = i := (List.getElem?_eq_some_iff.1 hp).2
      have lpF : p < F := by rw [← HF.out]; exact lp
      obtain ⟨b1, rfl⟩ := O3.out.addr 0 rfl (k := j) (by simpa using lj)
      obtain ⟨b2, rfl⟩ := O3.out.addr 1 rfl (k := j) (by simpa using lo)
      obtain ⟨b3, rfl⟩ := O3.out.addr 2 rfl (k := p) (by simpa using lp)
      have q1 := O3.out.getI 0 rfl lj
      have q2 := O3.out.get64 1 rfl lo
      have q3 := O3.out.getI 2 rfl lp
      rw [hij] at q1
      rw [hpi] at q3
      have uA : ((BitVec.ofNat 64 (p + 1)).toNat : Int) = (p : Int) + 1 := by rw [BitVec.toNat_ofNat, Nat.mod_eq_of_lt (by omega)]; simp
      rw [hat, uA] at q2
      have ti : ((i : Int) != (i : Int)) = false := by simp
      have d1' : decide ((p : Int) + 1 < 1) = false := by simp; omega
      have d2' : decide ((F : Int) < (p : Int) + 1) = false := by simp; omega
      have hix : ((p : Int) + 1 - 1).toNat = p := by omega
      clear hij hp hat hpi uA
      go_wp2
      go_roundw
      case rel => exact ⟨j + 1, by omega, by go_num, by first | rfl | trivial⟩
      case measure => simp [intOf] <;> omega
    · have hz3' : w.heap.size ≤ wr.heap.size := hz3
      have O4 := Lib.hid (O3.out.made hz3' 3 #[.int .i64 0] (by simp [maxLen])); have B4 := Lib.hid (B3.out.alloc hz3' (.cells #[.int .i64 0] 3))
      have hz4 := Lib.hid B4.out.size
      go_wp2_with fail
      refine (onceTickets_any _ (some ⟨wr.heap.size, 0, none⟩) 1 1 1 [0] (by omega) rfl (by omega) (O4.out.rdAt 3 rfl) (by simp) [1#64] 1#64 rfl rfl rfl).mono ?_
      rintro e w5 ⟨s5, d5, rfl, ho5, hb5⟩
      have B5 := Lib.hid (Below.more B4.out hb5 hz4.out)
      clear ho5 hb5
      go_wp2
      go_ret
      exact ⟨rfl, B5.out⟩
end Go.Proofs.Ytjjmjjbeecmmlaf
