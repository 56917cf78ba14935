/-
  The walk of FnOnceAddsAnyOrder: in whichever order the same actions are called, the cells are the same at last.
-/
import Derived.Test.YtjjmjjbeecmmlaeOFns
import Derived.Test.YtjjmjjbeecmmlaeAdds
import Derived.Test.YtjjmjjbeecmmlaeUndonePlain
import Derived.Test.YtjjmjjbeecmmlaeFrame
namespace Go.Proofs.Ytjjmjjbeecmmlae
set_option linter.unusedVariables false
set_option linter.unusedSimpArgs false
open Go.RowKit

section
variable {cells : List Nat} {nums : List (BitVec 64)} {n : Nat} {s : List (BitVec 64)} {calls : List Nat}
theorem adds_firsts (k : Nat) : (onceAt (addsAct cells nums) n () s calls k).1 = firsts (calls.take k) := by
  unfold onceAt firsts
  have : ∀ (l : List Nat) (t : List Nat × List Unit × List (BitVec 64)), (l.foldl (onceStep (addsAct cells nums)) t).1 = l.foldl (fun a i => if i ∈ a then a else a ++ [i]) t.1 := by
    intro l
    induction l with
    | nil => intro t; rfl
    | cons x l ih => intro t; rw [List.foldl_cons, List.foldl_cons, ih, onceStep_fst]
  rw [this]

theorem adds_sums (k : Nat) (hk : k ≤ calls.length) : (onceAt (addsAct cells nums) n () s calls k).2.2 = sums s ((onceAt (addsAct cells nums) n () s calls k).1.map fun i => (cells.getD i 0, nums.getD i 0)) := by
  induction k with
  | zero => rfl
  | succ k ih =>
    have h1 := ih (by omega)
    rw [onceAt_succ (by omega) rfl]
    generalize onceAt (addsAct cells nums) n () s calls k = t at h1 ⊢
    by_cases hm : calls[k] ∈ t.1
    · rw [onceStep_old hm]; exact h1
    · rw [onceStep_new hm]
      simp only [List.map_append, List.map_cons, List.map_nil]
      unfold sums at h1 ⊢
      rw [List.foldl_append, ← h1]
      rfl
end

theorem firsts_mem : ∀ (l : List Nat) (i : Nat), i ∈ firsts l ↔ i ∈ l := by
  have : ∀ (l a : List Nat) (i : Nat), i ∈ l.foldl (fun a i => if i ∈ a then a else a ++ [i]) a ↔ i ∈ a ∨ i ∈ l := by
    intro l
    induction l with
    | nil => intro a i; simp
    | cons x l ih =>
      intro a i
      rw [List.foldl_cons, ih]
      by_cases h : x ∈ a
      · rw [if_pos h]
        simp only [List.mem_cons]
        constructor
        · rintro (h1 | h1)
          · exact .inl h1
          · exact .inr (.inr h1)
        · rintro (h1 | rfl | h1)
          · exact .inl h1
          · exact .inl h
          · exact .inr h1
      · rw [if_neg h]
        simp only [List.mem_append, List.mem_cons, List.not_mem_nil, or_false]
        constructor
        · rintro ((h1 | h1) | h1)
          · exact .inl h1
          · exact .inr (.inl h1)
          · exact .inr (.inr h1)
        · rintro (h1 | h1 | h1)
          · exact .inl (.inl h1)
          · exact .inl (.inr h1)
          · exact .inr h1
  intro l i
  unfold firsts
  rw [this]
  simp
theorem firsts_nodup : ∀ (l : List Nat), (firsts l).Nodup := by
  have : ∀ (l a : List Nat), a.Nodup → (l.foldl (fun a i => if i ∈ a then a else a ++ [i]) a).Nodup := by
    intro l
    induction l with
    | nil => intro a h; exact h
    | cons x l ih =>
      intro a h
      rw [List.foldl_cons]
      apply ih
      by_cases hx : x ∈ a
      · rw [if_pos hx]; exact h
      · rw [if_neg hx, List.nodup_append]
        refine ⟨h, by simp, ?_⟩
        intro b hb c hc
        simp at hc
        subst hc
        exact fun e => hx (e ▸ hb)
  intro l
  exact this l [] (by simp)

theorem adds_any {cells : List Nat} {nums : List (BitVec 64)} {n : Nat} {s : List (BitVec 64)} {calls calls' : List Nat} {m m' : Nat} (hm : calls.length = m) (hm' : calls'.length = m') (h : ∀ i, i ∈ calls ↔ i ∈ calls') :
    (onceAt (addsAct cells nums) n () s calls m).2.2 = (onceAt (addsAct cells nums) n () s calls' m').2.2 := by
  rw [adds_sums m (by omega), adds_sums m' (by omega), adds_firsts, adds_firsts, List.take_of_length_le (by omega), List.take_of_length_le (by omega)]
  refine sums_perm (List.Perm.map _ ?_)
  refine (List.perm_ext_iff_of_nodup (firsts_nodup _) (firsts_nodup _)).2 fun i => ?_
  rw [firsts_mem, firsts_mem, h]

/-- What the calls of OnceAdds have seen. -/
def seenOf (cells : List Nat) (T : Nat → List Nat × List Unit × List (BitVec 64)) (calls : List Nat) : List (BitVec 64) := calls.mapIdx fun j i => (T (j + 1)).2.2.getD (cells.getD i 0) 0

theorem onceAdds_last (w : World) (a0 a1 a2 a3 : Option Addr) (nw n c0 c1 c2 m c3 : Nat) (start nums : List (BitVec 64)) (cells calls : List Nat) (hls : start.length = nw) (hrs : Rd w a0 (U start)) (hlk : cells.length = n) (hrk : Rd w a1 (NI cells)) (hkw : ∀ c ∈ cells, c < nw) (hlo : nums.length = n) (hro : Rd w a2 (U nums)) (hn : n ≤ 1048576) (hnw : nw ≤ 1048576) (hlc : calls.length = m) (hm : m ≤ 1048576) (hrc : Rd w a3 (NI calls)) (hcn : ∀ i ∈ calls, i < n)
    (last : List (BitVec 64)) (hlast : (onceAt (addsAct cells nums) n () start calls m).2.2 = last) :
    Calls Try.prog 15 #[.slice a0 nw c0, .slice a1 n c1, .slice a2 n c2, .slice a3 m c3] w (Added w m nw (seenOf cells (onceAt (addsAct cells nums) n () start calls) calls) last) :=
  onceAdds_any w a0 a1 a2 a3 nw n c0 c1 c2 m c3 start nums cells calls hls hrs hlk hrk hkw hlo hro hn hnw hlc hm hrc hcn _ rfl _ _ (by simp [seenOf, hlc]) (by intro j i h h' hi; subst hi; simp [seenOf]) hlast

set_option maxHeartbeats 3200000 in
set_option maxRecDepth 100000 in
theorem fnOnceAddsAnyOrder_any (w : World) (a0 : Option Addr) (n0 c0 : Nat) (x0 : List (BitVec 64)) (k0 : Came w a0 n0 c0 (U x0)) (a1 : Option Addr) (n1 c1 : Nat) (x1 : List (BitVec 64)) (k1 : Came w a1 n1 c1 (U x1)) (a2 : Option Addr) (n2 c2 : Nat) (x2 : List (BitVec 8)) (k2 : Came w a2 n2 c2 (U8 x2)) (bd : n0 + n1 + n2 ≤ 1048576) :
    Calls Try.prog 7 #[.slice a0 n0 c0, .slice a1 n1 c1, .slice a2 n2 c2] w fun e w' => e = .returned (.bool true) ∧ Below w.heap.size w w' := by
  have K0 := Lib.hid k0.u64; have K1 := Lib.hid k1.u64; have K2 := Lib.hid k2.u8
  clear k0 k1 k2
  obtain ⟨XS, hxs⟩ : ∃ XS, x0.take 12 = XS := ⟨_, rfl⟩
  obtain ⟨NW, hNW⟩ : ∃ N, XS.length = N := ⟨_, rfl⟩
  have bNW : NW ≤ 12 := by rw [← hNW, ← hxs]; simp; omega
  obtain ⟨YS, hys⟩ : ∃ XS, x1.take 12 = XS := ⟨_, rfl⟩
  obtain ⟨N, hN⟩ : ∃ N, YS.length = N := ⟨_, rfl⟩
  have bN : N ≤ 12 := by rw [← hN, ← hys]; simp; omega
  have HXS := Lib.hid hxs; have HNW := Lib.hid hNW; have HYS := Lib.hid hys; have HN := Lib.hid hN
  clear hxs hNW hys hN
  obtain ⟨calls, hcalls⟩ : ∃ l, oCalls x2 N = l := ⟨_, rfl⟩
  obtain ⟨m, hm⟩ : ∃ m, calls.length = m := ⟨_, rfl⟩
  have bm : m ≤ 1048576 := by
    rw [← hm, ← hcalls]
    unfold oCalls
    split
    · simp
    · simp [K2.out.2.1]; omega
  have HC := Lib.hid hcalls; have HM := Lib.hid hm
  have HCN : Hid (∀ i ∈ calls, i < N) := by refine Lib.hid ?_; rw [← hcalls]; exact oCalls_lt
  clear hcalls hm
  have O0 := Lib.hid (Owns.nil w w.heap.size); have B0 := Lib.hid (Below.refl w.heap.size w)
  have hz0 : w.heap.size ≤ w.heap.size := Nat.le_refl _
  go_enter Try.func7, Try.ntmps7
  go_wp2_with fail
  refine (oNumbers_any w a0 n0 c0 NW x0 XS K0.out.1 K0.out.2.1 K0.out.2.2.1 K0.out.2.2.2 (by omega) HXS.out HNW.out).mono ?_
  rintro e w1 ⟨s0, d0, rfl, ho, hb⟩
  have O1 := Lib.hid (O0.out.more hb ho hz0); have B1 := Lib.hid (Below.more B0.out hb hz0)
  have hz1 : w.heap.size ≤ w1.heap.size := B1.out.size
  clear ho hb O0 B0 hz0
  go_wp2_with fail
  refine (oNumbers_any w1 a1 n1 c1 N x1 YS (K1.out.1.mono B1.out (Nat.le_refl _)) K1.out.2.1 K1.out.2.2.1 K1.out.2.2.2 (by omega) HYS.out HN.out).mono ?_
  rintro e w2 ⟨s2, d2, rfl, ho, hb⟩
  have O2 := Lib.hid (O1.out.more hb ho hz1); have B2 := Lib.hid (Below.more B1.out hb hz1)
  have hz2 : w.heap.size ≤ w2.heap.size := B2.out.size
  clear ho hb O1 B1 hz1
  by_cases hw0 : NW = 0
  · have t0 : ((NW : Int) == 0) = true := by rw [hw0]; rfl
    clear hw0
    go_wp2
    go_ret
    exact ⟨rfl, B2.out⟩
  have t0 : ((NW : Int) == 0) = false := by rw [beq_eq_false_iff_ne]; omega
  have pw : 0 < NW := by omega
  obtain ⟨PL, hPL⟩ : ∃ l, (List.range N).map (fun i => i % NW) = l := ⟨_, rfl⟩
  have HLP : Hid (PL.length = N) := by show _ = _; rw [← hPL]; simp
  have HGP : Hid (∀ i (h : i < PL.length), PL[i] = i % NW) := by refine Lib.hid ?_; subst hPL; intro i h; simp
  have HPW : Hid (∀ c ∈ PL, c < NW) := by
    refine Lib.hid fun c hc => ?_
    rw [← hPL] at hc
    obtain ⟨i, _, rfl⟩ := List.mem_map.1 hc
    exact Nat.mod_lt _ pw
  clear hPL
  obtain ⟨FI, hFI⟩ : ∃ l, firsts calls = l := ⟨_, rfl⟩
  obtain ⟨F, hF⟩ : ∃ F, FI.length = F := ⟨_, rfl⟩
  have bF : F ≤ m := by rw [← hF, ← hFI, ← HM.out]; exact firsts_le _
  have HRV : Hid (calls.reverse.length = m) := by show _ = _; rw [List.length_reverse, HM.out]
  have HCR : Hid (∀ i ∈ calls.reverse, i < N) := Lib.hid fun i hi => HCN.out i (List.mem_reverse.1 hi)
  have HCF : Hid (∀ i ∈ FI, i < N) := Lib.hid fun i hi => HCN.out i (by rw [← hFI] at hi; exact (firsts_mem _ _).1 hi)
  obtain ⟨last, hlast⟩ : ∃ l, (onceAt (addsAct PL YS) N () XS calls m).2.2 = l := ⟨_, rfl⟩
  have HLR : Hid ((onceAt (addsAct PL YS) N () XS calls.reverse m).2.2 = last) := by
    refine Lib.hid ?_
    rw [← hlast]
    exact adds_any HRV.out HM.out fun i => List.mem_reverse
  have HLF : Hid ((onceAt (addsAct PL YS) N () XS FI F).2.2 = last) := by
    refine Lib.hid ?_
    rw [← hlast]
    exact adds_any hF HM.out fun i => by rw [← hFI]; exact firsts_mem _ _
  have HLL : Hid (last.length = NW) := by
    refine Lib.hid ?_
    rw [← hlast, adds_sums m (by rw [HM.out]; omega)]
    have : ∀ (l : List (Nat × BitVec 64)) (s : List (BitVec 64)), (sums s l).length = s.length := by
      intro l
      induction l with
      | nil => intro s; rfl
      | cons x l ih => intro s; show (sums (addTo s x) l).length = _; rw [ih]; simp [addTo]
    rw [this, HNW.out]
  have HLA := Lib.hid hlast; have HFI := Lib.hid hFI; have HF := Lib.hid hF
  clear hlast hFI hF hw0
  have t2 : ((NW : Int) == (NW : Int)) = true := by simp
  have O3 := Lib.hid (O2.out.made hz2 3 #[] (by simp))
  have B3 := Lib.hid (B2.out.alloc hz2 (.cells #[] 3))
  clear O2 B2
  go_wp2
  go_loopw [30, 9] (fun i v wr => ∃ (k : Nat) (e0 : Option Addr) (g0 : Nat), k ≤ N ∧ i = .int .i64 k ∧ v = .slice e0 k g0 ∧ Owns wr w.heap.size [⟨24, s0, NW, d0, U XS⟩, ⟨24, s2, N, d2, U YS⟩, ⟨3, e0, k, g0, NI (PL.take k)⟩] ∧ Below w.heap.size w wr) (fun i _ _ => N - (intOf i).toNat)
  case atStart => exact ⟨0, _, _, Nat.zero_le _, rfl, rfl, by simpa using O3.out, B3.out⟩
  case round =>
    clear O3 B3 hz2
    obtain ⟨k, e0, g0, hk, rfl, rfl, ho, hb⟩ := hrel
    have hsz := hb.size
    by_cases hlt : k < N
    · have lp : k < PL.length := by rw [HLP.out]; exact hlt
      obtain ⟨y, hy⟩ : ∃ y, k % NW = y := ⟨_, rfl⟩
      have hye : ((k : Int) % (NW : Int)) = (y : Int) := by rw [← hy]; simp
      have HTP : Hid (NI (PL.take (k + 1)) = NI (PL.take k) ++ [.int .i64 (y : Int)]) := by refine Lib.hid ?_; rw [List.take_succ_eq_append_getElem lp, NI_snoc, HGP.out, hy]
      have HO := Lib.hid ho; have HB := Lib.hid hb
      clear ho hb hy
      go_wp2_with (at_builtin; refine app3s [_, _] [] (.tmp 33) (.tmp 38) rfl rfl wr.heap.size rfl rfl rfl HO.out rfl (by omega) (by omega) ?_)
      intro e1 g1 w4 ho4 hb4 hs4
      have HR : Hid (Owns w4 w.heap.size [⟨24, s0, NW, d0, U XS⟩, ⟨24, s2, N, d2, U YS⟩, ⟨3, e1, k + 1, g1, NI (PL.take (k + 1))⟩]) := by refine Lib.hid ?_; rw [HTP.out]; exact ho4
      have HT := Lib.hid (HB.out.trans hb4)
      clear ho4 hb4 HO HB
      go_wp2
      go_roundw
      case rel => exact ⟨k + 1, e1, g1, by omega, by go_num, rfl, HR.out, HT.out⟩
      case measure => simp [intOf] <;> omega
    · have hkn : N = k := by omega
      subst hkn
      rw [List.take_of_length_le (by rw [HLP.out]; omega)] at ho
      obtain ⟨w1, rfl⟩ : ∃ w1 : World, w1 = wr := ⟨_, rfl⟩
      obtain ⟨s3, rfl⟩ : ∃ s, s = e0 := ⟨_, rfl⟩
      obtain ⟨d3, rfl⟩ : ∃ s, s = g0 := ⟨_, rfl⟩
      have O1 := Lib.hid ho; have B1 := Lib.hid hb; have hz1 := hsz
      clear ho hb hsz HGP
      go_wp2_with fail
      refine (oCalls_any w1 a2 n2 c2 N m x2 calls (K2.out.1.mono B1.out (Nat.le_refl _)) K2.out.2.1 (by omega) HC.out HM.out (by omega)).mono ?_
      rintro e w2 ⟨s1, d1, rfl, ho, hb⟩
      have O2 := Lib.hid (O1.out.more hb ho hz1); have B2 := Lib.hid (Below.more B1.out hb hz1)
      have hz2 : w.heap.size ≤ w2.heap.size := B2.out.size
      clear ho hb O1 B1 hz1
      have O3 := Lib.hid (O2.out.made hz2 3 #[] (by simp))
      have B3 := Lib.hid (B2.out.alloc hz2 (.cells #[] 3))
      clear O2 B2
      go_wp2
      go_loopw [13, 12] (fun i v wr => ∃ (j k : Nat) (z : Int) (e0 : Option Addr) (g0 : Nat), j + k = m ∧ z + 1 = k ∧ i = .int .i64 z ∧ v = .slice e0 j g0 ∧ Owns wr w.heap.size [⟨24, s0, NW, d0, U XS⟩, ⟨24, s2, N, d2, U YS⟩, ⟨3, s3, N, d3, NI PL⟩, ⟨3, s1, m, d1, NI calls⟩, ⟨3, e0, j, g0, NI (calls.reverse.take j)⟩] ∧ Below w.heap.size w wr) (fun i _ _ => ((intOf i) + 1).toNat)
      case atStart => exact ⟨0, m, _, _, _, by omega, by omega, rfl, rfl, by simpa using O3.out, B3.out⟩
      case round =>
        clear O3 B3 hz2
        obtain ⟨j, k, z, e0, g0, hjk, hz, rfl, rfl, ho, hb⟩ := hrel
        have hsz := hb.size
        by_cases hlt : 0 < k
        · obtain ⟨k', rfl⟩ : ∃ k', k = k' + 1 := ⟨k - 1, by omega⟩
          have hzk : z = (k' : Int) := by omega
          subst hzk
          have lc : k' < calls.length := by rw [HM.out]; omega
          obtain ⟨b0, rfl⟩ := ho.addr 3 rfl (k := k') (by simpa using lc)
          have q0 := ho.getI 3 rfl lc
          obtain ⟨x, hx⟩ : ∃ x, calls[k'] = x := ⟨_, rfl⟩
          rw [hx] at q0
          have HTK : Hid (NI (calls.reverse.take (j + 1)) = NI (calls.reverse.take j) ++ [.int .i64 (x : Int)]) := by
            refine Lib.hid ?_
            have lr : j < calls.reverse.length := by rw [HRV.out]; omega
            rw [List.take_succ_eq_append_getElem lr, NI_snoc, ← hx]
            congr 4
            simp only [List.getElem_reverse, HM.out]
            congr 1
            omega
          have HO := Lib.hid ho; have HB := Lib.hid hb
          clear ho hb hx hz
          go_wp2_with (at_builtin; refine app3s [_, _, _, _] [] (.tmp 53) (.tmp 58) rfl rfl wr.heap.size rfl rfl rfl HO.out rfl (by omega) (by omega) ?_)
          intro e1 g1 w4 ho4 hb4 hs4
          have HR : Hid (Owns w4 w.heap.size [⟨24, s0, NW, d0, U XS⟩, ⟨24, s2, N, d2, U YS⟩, ⟨3, s3, N, d3, NI PL⟩, ⟨3, some ⟨b0, 0, none⟩, m, d1, NI calls⟩, ⟨3, e1, j + 1, g1, NI (calls.reverse.take (j + 1))⟩]) := by refine Lib.hid ?_; rw [HTK.out]; exact ho4
          have HT := Lib.hid (HB.out.trans hb4)
          clear ho4 hb4 HO HB
          go_wp2
          go_roundw
          case rel => exact ⟨j + 1, k', (k' : Int) - 1, e1, g1, by omega, by omega, by go_num, rfl, HR.out, HT.out⟩
          case measure => simp [intOf] <;> omega
        · have hk0 : k = 0 := by omega
          subst hk0
          have hjm : m = j := by omega
          subst hjm
          have hz' : z = -1 := by omega
          subst hz'
          rw [List.take_of_length_le (by rw [HRV.out]; omega)] at ho
          obtain ⟨w3, rfl⟩ : ∃ w3 : World, w3 = wr := ⟨_, rfl⟩
          have O3 := Lib.hid ho; have B3 := Lib.hid hb; have hz3 := hsz
          clear ho hb hsz hjk hz
          go_wp2_with fail
          refine (onceAdds_last w3 s0 s3 s2 s1 NW N d0 d3 d2 m d1 XS YS PL calls HNW.out (O3.out.rdAt 0 rfl) HLP.out (O3.out.rdAt 2 rfl) HPW.out HN.out (O3.out.rdAt 1 rfl) (by omega) (by omega) HM.out bm (O3.out.rdAt 3 rfl) HCN.out last HLA.out).mono ?_
          rintro e w4 ⟨s4, d4, s5, d5, rfl, ho, hb⟩
          have O4 := Lib.hid (O3.out.more hb ho hz3); have B4 := Lib.hid (Below.more B3.out hb hz3)
          have hz4 : w.heap.size ≤ w4.heap.size := B4.out.size
          clear ho hb O3 B3 hz3
          go_wp2_with fail
          refine (onceAdds_last w4 s0 s3 s2 e0 NW N d0 d3 d2 m g0 XS YS PL calls.reverse HNW.out (O4.out.rdAt 0 rfl) HLP.out (O4.out.rdAt 2 rfl) HPW.out HN.out (O4.out.rdAt 1 rfl) (by omega) (by omega) HRV.out bm (O4.out.rdAt 4 rfl) HCR.out last HLR.out).mono ?_
          rintro e w5 ⟨s6, d6, s7, d7, rfl, ho, hb⟩
          have O5 := Lib.hid (O4.out.more hb ho hz4); have B5 := Lib.hid (Below.more B4.out hb hz4)
          have hz5 : w.heap.size ≤ w5.heap.size := B5.out.size
          clear ho hb O4 B4 hz4
          go_wp2_with fail
          refine (oFirsts_any w5 s1 m d1 F calls FI (O5.out.rdAt 3 rfl) HM.out bm HFI.out HF.out).mono ?_
          rintro e w6 ⟨s8, d8, rfl, ho, hb⟩
          have O6 := Lib.hid (O5.out.more hb ho hz5); have B6 := Lib.hid (Below.more B5.out hb hz5)
          have hz6 : w.heap.size ≤ w6.heap.size := B6.out.size
          clear ho hb O5 B5 hz5
          go_wp2_with fail
          refine (onceAdds_last w6 s0 s3 s2 s8 NW N d0 d3 d2 F d8 XS YS PL FI HNW.out (O6.out.rdAt 0 rfl) HLP.out (O6.out.rdAt 2 rfl) HPW.out HN.out (O6.out.rdAt 1 rfl) (by omega) (by omega) HF.out (by omega) (O6.out.rdAt 9 rfl) HCF.out last HLF.out).mono ?_
          rintro e w7 ⟨s9, d9, s10, d10, rfl, ho, hb⟩
          have O7 := Lib.hid (O6.out.more hb ho hz6); have B7 := Lib.hid (Below.more B6.out hb hz6)
          have hz7 : w.heap.size ≤ w7.heap.size := B7.out.size
          clear ho hb O6 B6 hz6
          go_wp2_with fail
          refine (sameWords_any s5 s7 d5 d7 NW NW last last w7 (O7.out.rdAt 6 rfl) (O7.out.rdAt 8 rfl) HLL.out HLL.out (by omega) (by omega) true (by simp)).mono ?_
          rintro e w8 ⟨rfl, hb⟩
          have O8 := Lib.hid (O7.out.mono hb (Nat.le_refl _)); have B8 := Lib.hid (Below.more B7.out hb hz7)
          have hz8 : w.heap.size ≤ w8.heap.size := B8.out.size
          clear hb O7 B7 hz7
          go_wp2_with fail
          refine (sameWords_any s5 s10 d5 d10 NW NW last last w8 (O8.out.rdAt 6 rfl) (O8.out.rdAt 11 rfl) HLL.out HLL.out (by omega) (by omega) true (by simp)).mono ?_
          rintro e w9 ⟨rfl, hb⟩
          have O9 := Lib.hid (O8.out.mono hb (Nat.le_refl _)); have B9 := Lib.hid (Below.more B8.out hb hz8)
          have hz9 : w.heap.size ≤ w9.heap.size := B9.out.size
          clear hb O8 B8 hz8
          go_wp2
          go_ret
          exact ⟨rfl, B9.out⟩
end Go.Proofs.Ytjjmjjbeecmmlae
