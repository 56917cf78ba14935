/-
  The walk of FnOnceChangesFirst: of functions that change one and the same number, the first one that is called changes it.
-/
import Derived.Test.YtjjmjjbeecmmlaeOFns
import Derived.Test.YtjjmjjbeecmmlaeChanges
import Derived.Test.YtjjmjjbeecmmlaeMapTo
import Derived.Test.YtjjmjjbeecmmlaeFrame
namespace Go.Proofs.Ytjjmjjbeecmmlae
set_option linter.unusedVariables false
set_option linter.unusedSimpArgs false
open Go.RowKit

def other (s x : BitVec 64) : BitVec 64 := if x = s then s + 1 else x
theorem other_ne (s x : BitVec 64) : ¬ other s x = s := by
  unfold other
  split
  · intro h
    have := congrArg BitVec.toNat h
    rw [BitVec.toNat_add] at this
    have := s.isLt
    simp at *
  · assumption

/-- Behind the first call the cell is that function's number, and all that run then have missed. -/
theorem first_state {olds news : List (BitVec 64)} {N : Nat} {s : BitVec 64} {calls : List Nat} (ho : ∀ i, i < N → olds.getD i 0 = s) (hne : ∀ i, i < N → ¬ news.getD i 0 = s) (hc : ∀ i ∈ calls, i < N) {i0 : Nat} (h0 : calls[0]? = some i0) :
    ∀ k, k < calls.length → (onceAt (changesAct olds news) N false s calls (k + 1)).2.2 = news.getD i0 0 ∧ i0 ∈ (onceAt (changesAct olds news) N false s calls (k + 1)).1 ∧ ∀ i ∈ (onceAt (changesAct olds news) N false s calls (k + 1)).1, (onceAt (changesAct olds news) N false s calls (k + 1)).2.1.getD i false = decide (i = i0) := by
  intro k
  induction k with
  | zero =>
    intro hk
    have h1 : calls[0] = i0 := by have := h0; rw [List.getElem?_eq_getElem hk] at this; exact Option.some.inj this
    have hi0 : i0 < N := hc i0 (h1 ▸ List.getElem_mem hk)
    rw [onceAt_succ hk h1, onceAt_zero, onceStep_new (by simp)]
    simp only [changesAct, ho i0 hi0]
    refine ⟨by simp, by simp, ?_⟩
    intro i hi
    simp at hi
    subst hi
    simp [hi0]
  | succ k ih =>
    intro hk
    obtain ⟨h1, h2, h3⟩ := ih (by omega)
    have hin : calls[k + 1] < N := hc _ (List.getElem_mem _)
    have hl : (onceAt (changesAct olds news) N false s calls (k + 1)).2.1.length = N := onceAt_length
    have hi0 : i0 < N := hc i0 (List.mem_of_getElem? h0)
    rw [onceAt_succ hk rfl]
    generalize onceAt (changesAct olds news) N false s calls (k + 1) = t at h1 h2 h3 hl ⊢
    generalize calls[k + 1] = i at hin ⊢
    by_cases hm : i ∈ t.1
    · rw [onceStep_old hm]
      exact ⟨h1, h2, h3⟩
    · rw [onceStep_new hm]
      have hsn : ¬ t.2.2 = s := by rw [h1]; exact hne i0 hi0
      simp only [changesAct, ho i hin]
      rw [if_neg hsn]
      refine ⟨h1, by simp [h2], ?_⟩
      intro j hj
      simp only [List.getD_eq_getElem?_getD, List.getElem?_set]
      by_cases hij : i = j
      · subst hij
        have hni : ¬ i = i0 := fun e => hm (e ▸ h2)
        rw [if_pos rfl, if_pos (by omega)]
        simp [hsn, hni]
      · rw [if_neg hij]
        have hj' : j ∈ t.1 := by
          rcases List.mem_append.1 hj with h | h
          · exact h
          · simp at h; exact absurd h.symm hij
        have := h3 j hj'
        rw [List.getD_eq_getElem?_getD] at this
        exact this

set_option maxHeartbeats 3200000 in
set_option maxRecDepth 100000 in
theorem fnOnceChangesFirst_any (w : World) (x0 : BitVec 64) (a1 : Option Addr) (n1 c1 : Nat) (x1 : List (BitVec 64)) (k1 : Came w a1 n1 c1 (U x1)) (a2 : Option Addr) (n2 c2 : Nat) (x2 : List (BitVec 8)) (k2 : Came w a2 n2 c2 (U8 x2)) (bd : n1 + n2 ≤ 1048576) :
    Calls Try.prog 6 #[.int .u64 (x0.toNat : Int), .slice a1 n1 c1, .slice a2 n2 c2] w fun e w' => e = .returned (.bool true) ∧ Below w.heap.size w w' := by
  have K1 := Lib.hid k1.u64; have K2 := Lib.hid k2.u8
  clear k1 k2
  obtain ⟨XS, hxs⟩ : ∃ XS, x1.take 12 = XS := ⟨_, rfl⟩
  obtain ⟨N, hN⟩ : ∃ N, XS.length = N := ⟨_, rfl⟩
  have bN : N ≤ 12 := by rw [← hN, ← hxs]; simp; omega
  have HXS := Lib.hid hxs; have HN := Lib.hid hN
  clear hxs hN
  obtain ⟨calls, hcalls⟩ : ∃ l, oCalls x2 N = l := ⟨_, rfl⟩
  obtain ⟨m, hm⟩ : ∃ m, calls.length = m := ⟨_, rfl⟩
  have bm : m ≤ 1048576 := by
    rw [← hm, ← hcalls]
    unfold oCalls
    split
    · simp
    · simp [K2.out.2.1]; omega
  have HC := Lib.hid hcalls; have HM := Lib.hid hm
  have HCN : Hid (∀ i ∈ calls, i < N) := by refine Lib.hid ?_; rw [← hcalls]; exact oCalls_lt
  clear hcalls hm
  obtain ⟨olds, holds⟩ : ∃ l, List.replicate N x0 = l := ⟨_, rfl⟩
  obtain ⟨news, hnews⟩ : ∃ l, XS.map (other x0) = l := ⟨_, rfl⟩
  have HLO : Hid (olds.length = N) := by show _ = _; rw [← holds]; simp
  have HLN : Hid (news.length = N) := by show _ = _; rw [← hnews, List.length_map, HN.out]
  have HGO : Hid (∀ i, i < N → olds.getD i 0 = x0) := by refine Lib.hid ?_; subst holds; intro i h; simp [h]
  have HGN : Hid (∀ i, i < N → ¬ news.getD i 0 = x0) := by
    refine Lib.hid ?_
    subst hnews
    intro i h
    have hl : i < XS.length := by rw [HN.out]; exact h
    simp only [List.getD_eq_getElem?_getD, List.getElem?_map, List.getElem?_eq_getElem hl]
    exact other_ne _ _
  have HNE := Lib.hid hnews; have HOE := Lib.hid holds
  clear holds hnews
  obtain ⟨outs, houts⟩ : ∃ o, onceOuts (changesAct olds news) N false x0 calls = o := ⟨_, rfl⟩
  obtain ⟨last, hlast⟩ : ∃ s, (onceAt (changesAct olds news) N false x0 calls m).2.2 = s := ⟨_, rfl⟩
  have HOL : Hid (outs.length = m) := by show _ = _; rw [← houts, onceOuts_length, HM.out]
  have HOG : Hid (∀ j i i0 (h : j < outs.length) (h' : j < calls.length), calls[j] = i → calls[0]? = some i0 → outs[j] = decide (i = i0)) := by
    refine Lib.hid ?_
    subst houts
    intro j i i0 h h' hi h0
    rw [onceOuts_get h h' hi]
    refine (first_state HGO.out HGN.out HCN.out h0 j h').2.2 i ?_
    rw [onceAt_succ h' hi]
    exact onceStep_mem
  have HLA : Hid (∀ i0, calls[0]? = some i0 → last = news.getD i0 0) := by
    refine Lib.hid fun i0 h0 => ?_
    have hm0 : 0 < m := by rw [← HM.out]; exact (List.getElem?_eq_some_iff.1 h0).1
    obtain ⟨k, hk⟩ : ∃ k, m = k + 1 := ⟨m - 1, by omega⟩
    rw [← hlast, hk]
    exact (first_state HGO.out HGN.out HCN.out h0 k (by rw [HM.out]; omega)).1
  have HL0 : Hid (m = 0 → last = x0) := by
    refine Lib.hid fun h => ?_
    rw [← hlast, h]
    rfl
  have HOO := Lib.hid houts; have HLS := Lib.hid hlast
  clear houts hlast
  have t1 : ((m : Int) != (m : Int)) = false := by simp
  have O0 := Lib.hid (Owns.nil w w.heap.size); have B0 := Lib.hid (Below.refl w.heap.size w)
  have hz0 : w.heap.size ≤ w.heap.size := Nat.le_refl _
  go_enter Try.func6, Try.ntmps6
  go_wp2_with fail
  refine (oNumbers_any w a1 n1 c1 N x1 XS K1.out.1 K1.out.2.1 K1.out.2.2.1 K1.out.2.2.2 (by omega) HXS.out HN.out).mono ?_
  rintro e w1 ⟨s0, d0, rfl, ho, hb⟩
  have O1 := Lib.hid (O0.out.more hb ho hz0); have B1 := Lib.hid (Below.more B0.out hb hz0)
  have hz1 : w.heap.size ≤ w1.heap.size := B1.out.size
  clear ho hb O0 B0 hz0
  have O2 := Lib.hid (O1.out.made hz1 24 #[] (by simp))
  have B2 := Lib.hid (B1.out.alloc hz1 (.cells #[] 24))
  clear O1 B1
  go_wp2
  go_loopw [21, 8] (fun i v wr => ∃ (k : Nat) (e0 : Option Addr) (g0 : Nat), k ≤ N ∧ i = .int .i64 k ∧ v = .slice e0 k g0 ∧ Owns wr w.heap.size [⟨24, s0, N, d0, U (mapTo (other x0) XS k)⟩, ⟨24, e0, k, g0, U (olds.take k)⟩] ∧ Below w.heap.size w wr) (fun i _ _ => N - (intOf i).toNat)
  case atStart => exact ⟨0, _, _, Nat.zero_le _, rfl, rfl, by rw [mapTo_zero]; simpa using O2.out, B2.out⟩
  case round =>
    clear O2 B2 hz1
    obtain ⟨k, e0, g0, hk, rfl, rfl, ho, hb⟩ := hrel
    have hsz := hb.size
    by_cases hlt : k < N
    · have lk : k < XS.length := by rw [HN.out]; exact hlt
      have lm : k < (mapTo (other x0) XS k).length := by simpa using lk
      have lo : k < olds.length := by rw [HLO.out]; exact hlt
      obtain ⟨b0, rfl⟩ := ho.addr 0 rfl (k := k) (by simpa using lm)
      have q0 := ho.get64 0 rfl lm
      rw [mapTo_get lk] at q0
      obtain ⟨x, hx⟩ : ∃ x, XS[k] = x := ⟨_, rfl⟩
      rw [hx] at q0
      have HTO : Hid (U (olds.take (k + 1)) = U (olds.take k) ++ [.int .u64 (x0.toNat : Int)]) := by
        refine Lib.hid ?_
        rw [List.take_succ_eq_append_getElem lo, U_snoc]
        have := HGO.out k hlt
        rw [show olds.getD k 0 = olds[k] by simp [lo]] at this
        rw [this]
      have HX := Lib.hid hx
      have HO := Lib.hid ho; have HB := Lib.hid hb
      clear ho hb hx
      by_cases hxe : x = x0
      · have tx : ((x.toNat : Int) == (x0.toNat : Int)) = true := by rw [hxe]; simp
        have hop : IntKind.u64.wrap ((x0.toNat : Int) + 1) = ((x0 + 1).toNat : Int) := u64_add x0 1#64
        have HM1 : Hid (mapTo (other x0) XS (k + 1) = (mapTo (other x0) XS k).set k (x0 + 1)) := by refine Lib.hid ?_; rw [← mapTo_set lk, HX.out]; unfold other; rw [if_pos hxe]
        obtain ⟨z, hz⟩ : ∃ z, x0 + 1 = z := ⟨_, rfl⟩
        rw [hz] at hop HM1
        clear hz hxe
        go_wp2_with (at_builtin; refine app30s [_] [] (.tmp 26) (.tmp 28) rfl rfl wr.heap.size rfl rfl rfl HO.out rfl (by omega) (by omega) ?_)
        intro e1 g1 w2 ho2 hb2 hs2
        have f0 := ho2.free 0 rfl k
        obtain ⟨u0, q0'⟩ := ho2.has 0 rfl (k := k) (by simpa using lm)
        obtain ⟨ho3, hb3⟩ := Owns.stored (p := []) ho2 rfl k (.int .u64 (z.toNat : Int))
        have HR : Hid (Owns (w2.setCell ⟨b0, k, none⟩ (.int .u64 (z.toNat : Int))) w.heap.size [⟨24, some ⟨b0, 0, none⟩, N, d0, U (mapTo (other x0) XS (k + 1))⟩, ⟨24, e1, k + 1, g1, U (olds.take (k + 1))⟩]) := by
          refine Lib.hid ?_
          rw [HTO.out, HM1.out, ← U_set]
          exact ho3
        have HT := Lib.hid (HB.out.trans (hb2.trans hb3))
        clear ho2 ho3 hb2 hb3 HO HB q0
        go_wp2
        go_roundw
        case rel => exact ⟨k + 1, e1, g1, by omega, by go_num, rfl, HR.out, HT.out⟩
        case measure => simp [intOf] <;> omega
      · have tx : ((x.toNat : Int) == (x0.toNat : Int)) = false := by
          rw [beq_eq_false_iff_ne, ne_eq, Int.natCast_inj]
          exact fun h => hxe (BitVec.eq_of_toNat_eq h)
        have HM1 : Hid (mapTo (other x0) XS (k + 1) = mapTo (other x0) XS k) := by refine Lib.hid (mapTo_keep lk ?_); rw [HX.out]; unfold other; rw [if_neg hxe]
        clear hxe
        go_wp2_with (at_builtin; refine app30s [_] [] (.tmp 26) (.tmp 28) rfl rfl wr.heap.size rfl rfl rfl HO.out rfl (by omega) (by omega) ?_)
        intro e1 g1 w2 ho2 hb2 hs2
        have HR : Hid (Owns w2 w.heap.size [⟨24, some ⟨b0, 0, none⟩, N, d0, U (mapTo (other x0) XS (k + 1))⟩, ⟨24, e1, k + 1, g1, U (olds.take (k + 1))⟩]) := by
          refine Lib.hid ?_
          rw [HTO.out, HM1.out]
          exact ho2
        have HT := Lib.hid (HB.out.trans hb2)
        clear ho2 hb2 HO HB q0
        go_wp2
        go_roundw
        case rel => exact ⟨k + 1, e1, g1, by omega, by go_num, rfl, HR.out, HT.out⟩
        case measure => simp [intOf] <;> omega
    · have hkn : N = k := by omega
      subst hkn
      rw [List.take_of_length_le (by rw [HLO.out]; omega), mapTo_all (by rw [HN.out]; omega), HNE.out] at ho
      obtain ⟨w1, rfl⟩ : ∃ w1 : World, w1 = wr := ⟨_, rfl⟩
      have O1 := Lib.hid ho; have B1 := Lib.hid hb; have hz1 := hsz
      clear ho hb hsz HGO HGN HNE HOE
      go_wp2_with fail
      refine (oCalls_any w1 a2 n2 c2 N m x2 calls (K2.out.1.mono B1.out (Nat.le_refl _)) K2.out.2.1 (by omega) HC.out HM.out (by omega)).mono ?_
      rintro e w2 ⟨s1, d1, rfl, ho, hb⟩
      have O2 := Lib.hid (O1.out.more hb ho hz1); have B2 := Lib.hid (Below.more B1.out hb hz1)
      have hz2 : w.heap.size ≤ w2.heap.size := B2.out.size
      clear ho hb O1 B1 hz1
      go_wp2_with fail
      refine (onceChanges_any w2 x0 e0 s0 s1 N g0 d0 m d1 olds news calls HLO.out (O2.out.rdAt 1 rfl) HLN.out (O2.out.rdAt 0 rfl) (by omega) HM.out bm (O2.out.rdAt 2 rfl) HCN.out outs last HOO.out HLS.out).mono ?_
      rintro e w3 ⟨s2, d2, rfl, ho, hb⟩
      have O3 := Lib.hid (O2.out.more hb ho hz2); have B3 := Lib.hid (Below.more B2.out hb hz2)
      have hz3 : w.heap.size ≤ w3.heap.size := B3.out.size
      clear ho hb O2 B2 hz2
      go_wp2
      go_loopw [58] (fun i wr => ∃ j : Nat, j ≤ m ∧ i = .int .i64 j ∧ Owns wr w.heap.size [⟨24, s0, N, d0, U news⟩, ⟨24, e0, N, g0, U olds⟩, ⟨3, s1, m, d1, NI calls⟩, ⟨4, s2, m, d2, BL outs⟩] ∧ Below w.heap.size w wr) (fun i _ => m - (intOf i).toNat)
      case atStart => exact ⟨0, Nat.zero_le _, rfl, O3.out, B3.out⟩
      case round =>
        clear O3 B3 hz3
        obtain ⟨j, hj, rfl, ho, hb⟩ := hrel
        by_cases hlt : j < m
        · have lj : j < calls.length := by rw [HM.out]; exact hlt
          have l0 : 0 < calls.length := by omega
          have lo : j < outs.length := by rw [HOL.out]; exact hlt
          obtain ⟨i, hij⟩ : ∃ i, calls[j] = i := ⟨_, rfl⟩
          obtain ⟨i0, hi0⟩ : ∃ i, calls[0] = i := ⟨_, rfl⟩
          obtain ⟨b1, rfl⟩ := ho.addr 2 rfl (k := j) (by simpa using lj)
          obtain ⟨b2, rfl⟩ := ho.addr 3 rfl (k := j) (by simpa using lo)
          have q1 := ho.getI 2 rfl lj
          have q0 := ho.getI 2 rfl l0
          rw [hij] at q1
          rw [hi0] at q0
          have hv := HOG.out j i i0 lo lj hij (by rw [List.getElem?_eq_getElem l0, hi0])
          have q2 := ho.getB 3 rfl (k := j) (v := decide (i = i0)) (by rw [List.getElem?_eq_getElem lo, hv])
          have HO := Lib.hid ho; have HB := Lib.hid hb
          have hm0 : (0 : Int) < (m : Int) := by omega
          clear ho hb hij hi0 hv
          by_cases hii : i = i0
          · have ti : ((i : Int) == (i0 : Int)) = true := by rw [hii]; simp
            rw [show decide (i = i0) = true by simp [hii]] at q2
            clear hii
            go_wp2
            go_quiet (fail)
            go_wp2
            go_roundw
            case rel => exact ⟨j + 1, by omega, by go_num, HO.out.drewN _, below_drewN HB.out _⟩
            case measure => simp [intOf] <;> omega
          · have ti : ((i : Int) == (i0 : Int)) = false := by rw [beq_eq_false_iff_ne]; omega
            rw [show decide (i = i0) = false by simp [hii]] at q2
            clear hii
            go_wp2
            go_quiet (fail)
            go_wp2
            go_roundw
            case rel => exact ⟨j + 1, by omega, by go_num, HO.out.drewN _, below_drewN HB.out _⟩
            case measure => simp [intOf] <;> omega
        · have HB := Lib.hid hb
          by_cases hm0 : m = 0
          · have hl := HL0.out hm0
            have tm : ((m : Int) == 0) = true := by rw [hm0]; rfl
            have tl : ((last.toNat : Int) == (x0.toNat : Int)) = true := by rw [hl]; simp
            clear ho hb hl hm0
            go_wp2
            go_ret
            exact ⟨rfl, HB.out⟩
          · have tm : ((m : Int) == 0) = false := by rw [beq_eq_false_iff_ne]; omega
            have l0 : 0 < calls.length := by rw [HM.out]; omega
            obtain ⟨i0, hi0⟩ : ∃ i, calls[0] = i := ⟨_, rfl⟩
            have hin : i0 < N := by rw [← hi0]; exact HCN.out _ (List.getElem_mem l0)
            have ln : i0 < news.length := by rw [HLN.out]; exact hin
            obtain ⟨b1, rfl⟩ := ho.addr 2 rfl (k := 0) (by simpa using l0)
            obtain ⟨b0, rfl⟩ := ho.addr 0 rfl (k := i0) (by simpa using ln)
            have q1 := ho.getI 2 rfl l0
            have q0 := ho.get64 0 rfl ln
            rw [hi0] at q1
            have hl := HLA.out i0 (by rw [List.getElem?_eq_getElem l0, hi0])
            rw [show news.getD i0 0 = news[i0] by simp [ln]] at hl
            rw [← hl] at q0
            have tl : ((last.toNat : Int) == (last.toNat : Int)) = true := by simp
            have hm1 : (0 : Int) < (m : Int) := by omega
            clear ho hb hl hi0
            go_wp2
            go_ret
            exact ⟨rfl, HB.out⟩
end Go.Proofs.Ytjjmjjbeecmmlae
