/-
  The walk of FnRunningSums: numbers added in any order leave the same cells; each answer is the running sum.
-/
import Derived.Test.YtjjmjjbeecmmlaaGrow
import Derived.Test.YtjjmjjbeecmmlaaUndonePlain
import Derived.Test.YtjjmjjbeecmmlaaFrame
import Derived.StillTailTactics
namespace Go.Proofs.Ytjjmjjbeecmmlaa
set_option linter.unusedVariables false
set_option linter.unusedSimpArgs false
open Go.RowKit

theorem set_perm' {α : Type} (l : List α) (i : Nat) (x : α) (h : i < l.length) : (l[i] :: l.set i x).Perm (x :: l) := by
  induction l generalizing i with
  | nil => simp at h
  | cons y l ih =>
    cases i with
    | zero => simpa using List.Perm.swap x y l
    | succ i =>
      have := ih i (by simpa using h)
      simp only [List.getElem_cons_succ, List.set_cons_succ]
      exact ((List.Perm.swap _ _ _).trans (this.cons y)).trans (List.Perm.swap _ _ _)

theorem swap_perm {α : Type} (l : List α) (i k : Nat) (hi : i < l.length) (hk : k < l.length) : ((l.set i l[k]).set k l[i]).Perm l := by
  have h1 := set_perm' l i l[k] hi
  have h2 := set_perm' (l.set i l[k]) k l[i] (by simpa using hk)
  have e : (l.set i l[k])[k]'(by simpa using hk) = l[k] := by
    rw [List.getElem_set]
    split <;> rfl
  rw [e] at h2
  exact List.Perm.cons_inv (h2.trans h1)

section
variable {l : List (Nat × BitVec 64)} {bs : List (BitVec 64)}
theorem adds_length (h : l.length = bs.length) : (adds l bs).length = l.length := by simp [adds, h]
theorem adds_kinds (h : l.length = bs.length) : kindsOf (adds l bs) = List.replicate l.length 2#8 := by
  apply List.ext_getElem
  · simp [kindsOf, adds, h]
  · intro i h1 h2
    simp [kindsOf, adds]
theorem adds_cells (h : l.length = bs.length) : cellsOf (adds l bs) = l.map (·.1) := by
  apply List.ext_getElem
  · simp [cellsOf, adds, h]
  · intro i h1 h2
    simp [cellsOf, adds]
theorem adds_as (h : l.length = bs.length) : asOf (adds l bs) = l.map (·.2) := by
  apply List.ext_getElem
  · simp [asOf, adds, h]
  · intro i h1 h2
    simp [asOf, adds]
theorem adds_bs (h : l.length = bs.length) : bsOf (adds l bs) = bs := by
  apply List.ext_getElem
  · simp [bsOf, adds, h]
  · intro i h1 h2
    simp [bsOf, adds]
theorem sums_length {s : List (BitVec 64)} : (sums s l).length = s.length := by
  unfold sums
  induction l generalizing s with
  | nil => rfl
  | cons p l ih => rw [List.foldl_cons, ih]; simp [addTo]
theorem sums_snoc {s : List (BitVec 64)} {k : Nat} (h : k < l.length) : sums s (l.take (k + 1)) = addTo (sums s (l.take k)) l[k] := by
  rw [List.take_succ_eq_append_getElem h]
  unfold sums
  rw [List.foldl_append]
  rfl
end

set_option maxHeartbeats 3200000 in
set_option maxRecDepth 100000 in
theorem fnRunningSums_any (w : World) (a0 : Option Addr) (n0 c0 : Nat) (x0 : List (BitVec 64)) (k0 : Came w a0 n0 c0 (U x0)) (a1 : Option Addr) (n1 c1 : Nat) (x1 : List (BitVec 8)) (k1 : Came w a1 n1 c1 (U8 x1)) (a2 : Option Addr) (n2 c2 : Nat) (x2 : List (BitVec 64)) (k2 : Came w a2 n2 c2 (U x2)) (a3 : Option Addr) (n3 c3 : Nat) (x3 : List (BitVec 8)) (k3 : Came w a3 n3 c3 (U8 x3)) (bd : n0 + n1 + n2 + n3 ≤ 1048576) :
    Calls Try.prog 8 #[.slice a0 n0 c0, .slice a1 n1 c1, .slice a2 n2 c2, .slice a3 n3 c3] w fun e w' => e = .returned (.bool true) ∧ Below w.heap.size w w' := by
  have K0 := Lib.hid k0.u64; have K1 := Lib.hid k1.u8; have K2 := Lib.hid k2.u64; have K3 := Lib.hid k3.u8
  clear k0 k1 k2 k3
  by_cases h0 : n0 = 0
  · subst h0
    go_enter Try.func8, Try.ntmps8
    go_wp2
    go_ret
    exact ⟨rfl, Below.refl _ _⟩
  have t0 : ((n0 : Int) == 0) = false := by simp; omega
  have t1 : ((n1 : Int) != (n1 : Int)) = false := by simp
  have p0 : 0 < n0 := by omega
  obtain ⟨sc, hsc⟩ : ∃ sc, scriptOf x1 x2 n0 = sc := ⟨_, rfl⟩
  have HL : Hid (sc.length = n1) := by show _ = _; rw [← hsc, scriptOf_length, K1.out.2.1]
  have HC : Hid (∀ c ∈ sc, c.cell < n0) := by show ∀ c ∈ sc, _; rw [← hsc]; exact scriptOf_cell p0
  have HSC := Lib.hid hsc
  clear hsc
  obtain ⟨l, hl⟩ : ∃ l, sc.map (fun d => (d.cell, d.a)) = l := ⟨_, rfl⟩
  obtain ⟨bs, hbs⟩ : ∃ bs, bsOf sc = bs := ⟨_, rfl⟩
  have HLL : Hid (l.length = n1) := by show _ = _; rw [← hl]; simp [HL.out]
  have HLB : Hid (bs.length = n1) := by show _ = _; rw [← hbs]; simp [HL.out]
  have HCL : Hid (∀ p ∈ l, p.1 < n0) := by
    refine Lib.hid ?_
    rw [← hl]
    intro p hp
    obtain ⟨d, hd, rfl⟩ := List.mem_map.1 hp
    exact HC.out d hd
  have HR : Hid (cellsOf sc = l.map (·.1) ∧ asOf sc = l.map (·.2)) := by refine Lib.hid ?_; rw [← hl]; simp [cellsOf, asOf]
  have HBS := Lib.hid hbs
  clear hl hbs HC
  obtain ⟨A, hA⟩ : ∃ A, (runL x0 (adds l bs)).1 = A := ⟨_, rfl⟩
  have HRN : Hid ((runL x0 (adds l bs)).2 = sums x0 l ∧ ∀ k, (h : k < l.length) → A.getD k 0 = (sums x0 (l.take (k + 1))).getD (l[k]).1 0) := by
    refine Lib.hid ?_
    rw [← hA]
    exact adds_run (by rw [HLL.out, HLB.out]) (fun p hp => by rw [K0.out.2.1]; exact HCL.out p hp)
  have HLA : Hid (A.length = n1) := by show _ = _; rw [← hA, runL_fst_length, adds_length (by rw [HLL.out, HLB.out]), HLL.out]
  have HA := Lib.hid hA
  have HEQ : Hid (l.length = bs.length) := by show _ = _; rw [HLL.out, HLB.out]
  clear hA
  have O0 := Lib.hid (Owns.nil w w.heap.size); have B0 := Lib.hid (Below.refl w.heap.size w)
  have hz0 : w.heap.size ≤ w.heap.size := Nat.le_refl _
  go_enter Try.func8, Try.ntmps8
  go_wp2_with fail
  refine (script_any w a1 a2 c1 c2 n0 n1 n2 x1 x2 sc HSC.out K1.out.2.1 K2.out.2.1 K1.out.1 K2.out.1 (by omega) p0 (by omega) (by omega)).mono ?_
  rintro e w1 ⟨s0, d0, s1, d1, s2, d2, s3, d3, rfl, ho, hb⟩
  rw [HR.out.1, HR.out.2, HBS.out] at ho
  have O1 := Lib.hid (ho.drop (L' := [⟨3, s1, n1, d1, NI (l.map (·.1))⟩, ⟨30, s2, n1, d2, U (l.map (·.2))⟩, ⟨30, s3, n1, d3, U bs⟩]) (by simp)); have B1 := Lib.hid hb
  have hz1 : w.heap.size ≤ w1.heap.size := B1.out.size
  clear ho hb O0 B0 hz0
  have hp := Lib.hid (O1.out.made hz1 5 #[] (by simp)); have hbp := Lib.hid (B1.out.alloc hz1 (.cells #[] 5))
  clear O1 B1
  go_wp2
  go_loopw [42, 13] (fun i v wr => ∃ (k : Nat) (e0 : Option Addr) (g0 : Nat), k ≤ n1 ∧ i = .int .i64 k ∧ v = .slice e0 k g0 ∧ Owns wr w.heap.size [⟨3, s1, n1, d1, NI (l.map (·.1))⟩, ⟨30, s2, n1, d2, U (l.map (·.2))⟩, ⟨30, s3, n1, d3, U bs⟩, ⟨5, e0, k, g0, U8 (List.replicate k 2#8)⟩] ∧ Below w.heap.size w wr) (fun i _ _ => n1 - (intOf i).toNat)
  case atStart => exact ⟨0, _, _, Nat.zero_le _, rfl, rfl, by simpa using hp.out, hbp.out⟩
  case round =>
    clear hp hbp hz1
    obtain ⟨k, e0, g0, hk, rfl, rfl, ho, hb⟩ := hrel
    have hsz := hb.size
    by_cases hlt : k < n1
    · have HO := Lib.hid ho; have HB := Lib.hid hb
      clear ho hb
      go_wp2_with (at_builtin; refine app5s [_, _, _] [] (.tmp 44) (.tmp 45) rfl rfl wr.heap.size rfl rfl rfl HO.out rfl (by omega) (by omega) ?_)
      intro f0 j0 u1 ho1 hb1 hs1
      have hT := Lib.hid (HB.out.trans hb1)
      have hR : Hid (Owns u1 w.heap.size [⟨3, s1, n1, d1, NI (l.map (·.1))⟩, ⟨30, s2, n1, d2, U (l.map (·.2))⟩, ⟨30, s3, n1, d3, U bs⟩, ⟨5, f0, k + 1, j0, U8 (List.replicate (k + 1) 2#8)⟩]) := by
        refine Lib.hid ?_
        rw [List.replicate_succ', U8_snoc]
        exact ho1
      clear ho1 hb1 HO HB
      go_wp2
      go_roundw
      case rel => exact ⟨k + 1, f0, j0, by omega, by go_num, rfl, hR.out, hT.out⟩
      case measure => simp [intOf]; omega
    · obtain rfl : k = n1 := by omega
      obtain ⟨w1, rfl⟩ : ∃ w1 : World, w1 = wr := ⟨_, rfl⟩
      have O1 := Lib.hid ho; have B1 := Lib.hid hb; have hz1 := hsz
      clear ho hb hsz
      go_wp2_with fail
      refine (copied_any a0 c0 n0 x0 w1 (K0.out.1.mono B1.out (Nat.le_refl _)) K0.out.2.1 K0.out.2.2.2 (by omega)).mono ?_
      rintro e w2 ⟨s4, d4, rfl, ho, hb⟩
      have O2 := Lib.hid (O1.out.more hb ho hz1); have B2 := Lib.hid (Below.more B1.out hb hz1)
      have hz2 : w.heap.size ≤ w2.heap.size := B2.out.size
      clear ho hb O1 B1 hz1
      go_wp2_with fail
      refine (run64_any w2 s4 e0 s1 s2 s3 d4 g0 d1 d2 d3 n0 k x0 (adds l bs) K0.out.2.1 (by rw [adds_length HEQ.out, HLL.out]) (O2.out.rdAt 4 rfl) (by rw [adds_kinds HEQ.out, HLL.out]; exact O2.out.rdAt 3 rfl) (by rw [adds_cells HEQ.out]; exact O2.out.rdAt 0 rfl) (by rw [adds_as HEQ.out]; exact O2.out.rdAt 1 rfl) (by rw [adds_bs HEQ.out]; exact O2.out.rdAt 2 rfl) (by omega) (by omega) (by intro d hd; have h1 : d.cell ∈ cellsOf (adds l bs) := List.mem_map.2 ⟨d, hd, rfl⟩; rw [adds_cells HEQ.out] at h1; obtain ⟨p, hp, he⟩ := List.mem_map.1 h1; rw [← he]; exact HCL.out p hp)).mono ?_
      rintro e w3 ⟨s5, d5, s6, d6, rfl, ho, hb⟩
      rw [HA.out, HRN.out.1] at ho
      have O3 := Lib.hid (O2.out.more hb ho hz2); have B3 := Lib.hid (Below.more B2.out hb hz2)
      have hz3 : w.heap.size ≤ w3.heap.size := B3.out.size
      clear ho hb O2 B2 hz2
      go_wp2_with fail
      refine (copied_any a0 c0 n0 x0 w3 (K0.out.1.mono B3.out (Nat.le_refl _)) K0.out.2.1 K0.out.2.2.2 (by omega)).mono ?_
      rintro e w4 ⟨s7, d7, rfl, ho, hb⟩
      have O4 := Lib.hid (O3.out.more hb ho hz3); have B4 := Lib.hid (Below.more B3.out hb hz3)
      have hz4 : w.heap.size ≤ w4.heap.size := B4.out.size
      clear ho hb O3 B3 hz3
      go_wp2
      go_loopw [67] (fun i wr => ∃ j : Nat, j ≤ k ∧ i = .int .i64 j ∧ Owns wr w.heap.size [⟨3, s1, k, d1, NI (l.map (·.1))⟩, ⟨30, s2, k, d2, U (l.map (·.2))⟩, ⟨30, s3, k, d3, U bs⟩, ⟨5, e0, k, g0, U8 (List.replicate k 2#8)⟩, ⟨30, s4, n0, d4, U x0⟩, ⟨30, s5, k, d5, U A⟩, ⟨30, s6, n0, d6, U (sums x0 l)⟩, ⟨30, s7, n0, d7, U (sums x0 (l.take j))⟩] ∧ Below w.heap.size w wr) (fun i _ => k - (intOf i).toNat)
      case atStart => exact ⟨0, Nat.zero_le _, rfl, by simpa [sums] using O4.out, B4.out⟩
      case round =>
        clear O4 B4 hz4
        obtain ⟨j, hj, rfl, ho, hb⟩ := hrel
        have hsz := hb.size
        by_cases hlt : j < k
        · have lx : j < l.length := by rw [HLL.out]; exact hlt
          have la : j < A.length := by rw [HLA.out]; exact hlt
          obtain ⟨c, a, hca⟩ : ∃ c a, l[j] = (c, a) := ⟨_, _, rfl⟩
          have hcn : c < n0 := by have := HCL.out _ (List.getElem_mem lx); rw [hca] at this; exact this
          obtain ⟨b1, rfl⟩ := ho.addr 0 rfl (k := j) (by simpa using lx)
          obtain ⟨b2, rfl⟩ := ho.addr 1 rfl (k := j) (by simpa using lx)
          obtain ⟨b5, rfl⟩ := ho.addr 5 rfl (k := j) (by simpa using la)
          have ls : c < (sums x0 (l.take j)).length := by rw [sums_length, K0.out.2.1]; exact hcn
          obtain ⟨b7, rfl⟩ := ho.addr 7 rfl (k := c) (by simpa using ls)
          have q1 := ho.getI 0 rfl (k := j) (by simpa using lx)
          have q2 := ho.get64 1 rfl (k := j) (by simpa using lx)
          have q7 := ho.get64 7 rfl ls
          have f7 := ho.free 7 rfl c
          simp only [List.getElem_map, hca] at q1 q2
          obtain ⟨o, hO⟩ : ∃ o, (sums x0 (l.take j))[c] = o := ⟨_, rfl⟩
          rw [hO] at q7
          obtain ⟨z, hz⟩ : ∃ z, o + a = z := ⟨_, rfl⟩
          have HST : Hid (sums x0 (l.take (j + 1)) = (sums x0 (l.take j)).set c z) := by
            refine Lib.hid ?_
            rw [sums_snoc lx, hca]
            unfold addTo
            simp only
            rw [show (sums x0 (l.take j)).getD c 0 = o by rw [← hO]; simp [ls], hz]
          have HAZ : Hid (A[j] = z) := by
            refine Lib.hid ?_
            have h1 := HRN.out.2 j lx
            rw [HST.out, hca] at h1
            have h2 : A.getD j 0 = A[j] := by simp [la]
            rw [h2] at h1
            rw [h1]
            exact getD_set_self ls z
          have hop : IntKind.u64.wrap ((o.toNat : Int) + (a.toNat : Int)) = (z.toNat : Int) := by rw [u64_add, hz]
          obtain ⟨ho2, hb2⟩ := Owns.stored (p := [_, _, _, _, _, _, _]) ho rfl c (.int .u64 (z.toNat : Int))
          have HO2 : Hid (Owns (wr.setCell ⟨b7, c, none⟩ (.int .u64 (z.toNat : Int))) w.heap.size [⟨3, some ⟨b1, 0, none⟩, k, d1, NI (l.map (·.1))⟩, ⟨30, some ⟨b2, 0, none⟩, k, d2, U (l.map (·.2))⟩, ⟨30, s3, k, d3, U bs⟩, ⟨5, e0, k, g0, U8 (List.replicate k 2#8)⟩, ⟨30, s4, n0, d4, U x0⟩, ⟨30, some ⟨b5, 0, none⟩, k, d5, U A⟩, ⟨30, s6, n0, d6, U (sums x0 l)⟩, ⟨30, some ⟨b7, 0, none⟩, n0, d7, U (sums x0 (l.take (j + 1)))⟩]) := by
            refine Lib.hid ?_
            rw [HST.out, ← U_set]
            exact ho2
          have HB2 := Lib.hid (hb.trans hb2)
          have q5 := HO2.out.get64 5 rfl la
          have q7' := HO2.out.get64 7 rfl (k := c) (by rw [HST.out]; simpa using ls)
          rw [HAZ.out] at q5
          have e7 : (sums x0 (l.take (j + 1)))[c]'(by rw [HST.out]; simpa using ls) = z := by simp only [HST.out]; simp
          rw [e7] at q7'
          have tz : ((z.toNat : Int) != (z.toNat : Int)) = false := by simp
          clear ho2 hb2 ho hb e7 hz hO hca
          go_wp2
          go_still_tail 10, (by kernel_rfl)
          go_wp2
          go_quiet (fail)
          go_wp2
          go_roundw
          case rel => exact ⟨j + 1, by omega, by go_num, HO2.out.drewN _, below_drewN HB2.out _⟩
          case measure => simp [intOf]; omega
        · obtain rfl : j = k := by omega
          rw [List.take_of_length_le (by rw [HLL.out]; omega)] at ho
          have HO := Lib.hid ho; have HB := Lib.hid hb
          clear ho hb
          obtain ⟨wo, rfl⟩ : ∃ wo : World, wo = wr := ⟨_, rfl⟩
          go_wp2
          go_loopw [94] (fun i wr => ∃ (r : Nat) (P : List (Nat × BitVec 64)), r ≤ n3 ∧ i = .int .i64 r ∧ P.Perm l ∧ Owns wr w.heap.size [⟨3, s1, j, d1, NI (P.map (·.1))⟩, ⟨30, s2, j, d2, U (P.map (·.2))⟩, ⟨30, s3, j, d3, U bs⟩, ⟨5, e0, j, g0, U8 (List.replicate j 2#8)⟩, ⟨30, s4, n0, d4, U x0⟩, ⟨30, s5, j, d5, U A⟩, ⟨30, s6, n0, d6, U (sums x0 l)⟩, ⟨30, s7, n0, d7, U (sums x0 l)⟩] ∧ Below w.heap.size w wr) (fun i _ => n3 - (intOf i).toNat)
          case atStart => exact ⟨0, l, Nat.zero_le _, rfl, .refl _, HO.out, HB.out⟩
          case round =>
            clear HO HB hsz
            obtain ⟨r, P, hr, rfl, hP, ho, hb⟩ := hrel
            have hsz := hb.size
            have hPl : Hid (P.length = j) := by show _ = _; rw [hP.length_eq, HLL.out]
            have HP := Lib.hid hP
            clear hP
            by_cases hlt : r < n3
            · have l3 : r < x3.length := by rw [K3.out.2.1]; exact hlt
              obtain ⟨b3, o3, rfl, q3⟩ := at_u8 K3.out.1 hb (Nat.le_refl _) l3
              obtain ⟨v, hv⟩ : ∃ v, x3[r] = v := ⟨_, rfl⟩
              rw [hv] at q3
              have bv := v.isLt
              clear hv
              by_cases hrj : r < j
              · obtain ⟨m, hm⟩ : ∃ m, r + v.toNat % (j - r) = m := ⟨_, rfl⟩
                have hmj : m < j := by have := Nat.mod_lt v.toNat (show 0 < j - r by omega); omega
                have hme : ((r : Int) + (v.toNat : Int) % ((j - r : Nat) : Int)) = (m : Int) := by rw [← hm]; simp
                have hmf : ((r : Int) + (v.toNat : Int) % ((j : Int) - (r : Int))) = (m : Int) := by rw [← hme, Int.natCast_sub (by omega)]
                clear hm
                have lr : r < P.length := by rw [hPl.out]; exact hrj
                have lm : m < P.length := by rw [hPl.out]; exact hmj
                obtain ⟨cr, ar, hcr⟩ : ∃ c a, P[r] = (c, a) := ⟨_, _, rfl⟩
                obtain ⟨cm, am, hcm⟩ : ∃ c a, P[m] = (c, a) := ⟨_, _, rfl⟩
                obtain ⟨b1, rfl⟩ := ho.addr 0 rfl (k := r) (by simpa using lr)
                obtain ⟨b2, rfl⟩ := ho.addr 1 rfl (k := r) (by simpa using lr)
                have q1 := ho.getI 0 rfl (k := r) (by simpa using lr)
                have q1m := ho.getI 0 rfl (k := m) (by simpa using lm)
                simp only [List.getElem_map, hcr, hcm] at q1 q1m
                have f1 := ho.free 0 rfl r; have f1m := ho.free 0 rfl m
                have f2 := ho.free 1 rfl r; have f2m := ho.free 1 rfl m
                obtain ⟨hoA, hbA⟩ := Owns.stored (p := []) ho rfl r (.int .i64 (cm : Int))
                obtain ⟨uA, huA⟩ := hoA.has 0 rfl (k := m) (by simpa using lm)
                have fA := hoA.free 0 rfl m
                obtain ⟨hoB, hbB⟩ := Owns.stored (p := []) hoA rfl m (.int .i64 (cr : Int))
                have q2 := hoB.get64 1 rfl (k := r) (by simpa using lr)
                have q2m := hoB.get64 1 rfl (k := m) (by simpa using lm)
                simp only [List.getElem_map, hcr, hcm] at q2 q2m
                obtain ⟨hoC, hbC⟩ := Owns.stored (p := [_]) hoB rfl r (.int .u64 (am.toNat : Int))
                obtain ⟨uC, huC⟩ := hoC.has 1 rfl (k := m) (by simpa using lm)
                have fC := hoC.free 1 rfl m; have fB := hoB.free 1 rfl r
                obtain ⟨hoD, hbD⟩ := Owns.stored (p := [_]) hoC rfl m (.int .u64 (ar.toNat : Int))
                have HBD := Lib.hid (hb.trans (hbA.trans (hbB.trans (hbC.trans hbD))))
                obtain ⟨P', hP'⟩ : ∃ P', (P.set r P[m]).set m P[r] = P' := ⟨_, rfl⟩
                have HP' : Hid (P'.Perm l) := by rw [← hP']; exact (swap_perm P r m lr lm).trans HP.out
                have HOD : Hid (Owns ((((wr.setCell ⟨b1, r, none⟩ (.int .i64 (cm : Int))).setCell ⟨b1, m, none⟩ (.int .i64 (cr : Int))).setCell ⟨b2, r, none⟩ (.int .u64 (am.toNat : Int))).setCell ⟨b2, m, none⟩ (.int .u64 (ar.toNat : Int))) w.heap.size [⟨3, some ⟨b1, 0, none⟩, j, d1, NI (P'.map (·.1))⟩, ⟨30, some ⟨b2, 0, none⟩, j, d2, U (P'.map (·.2))⟩, ⟨30, s3, j, d3, U bs⟩, ⟨5, e0, j, g0, U8 (List.replicate j 2#8)⟩, ⟨30, s4, n0, d4, U x0⟩, ⟨30, s5, j, d5, U A⟩, ⟨30, s6, n0, d6, U (sums x0 l)⟩, ⟨30, s7, n0, d7, U (sums x0 l)⟩]) := by
                  refine Lib.hid ?_
                  rw [← hP', hcr, hcm]
                  simp only [List.map_set]
                  rw [← NI_set, ← NI_set, ← U_set, ← U_set]
                  exact hoD
                clear hoA hbA hoB hbB hoC hbC hoD hbD ho hb hP' hcr hcm hPl HP
                go_wp2
                go_roundw
                case rel => exact ⟨r + 1, P', by omega, by go_num, HP'.out, HOD.out, HBD.out⟩
                case measure => simp [intOf]; omega
              · have HO := Lib.hid ho; have HB := Lib.hid hb
                clear ho hb hPl
                go_wp2
                go_roundw
                case rel => exact ⟨r + 1, P, by omega, by go_num, HP.out, HO.out, HB.out⟩
                case measure => simp [intOf]; omega
            · obtain ⟨w4, rfl⟩ : ∃ w4 : World, w4 = wr := ⟨_, rfl⟩
              have O4 := Lib.hid ho; have B4 := Lib.hid hb; have hz4 := hsz
              clear ho hb hsz
              have HE2 : Hid (P.length = bs.length) := by show _ = _; rw [hPl.out, HLB.out]
              have HRP : Hid ((runL x0 (adds P bs)).2 = sums x0 l) := by
                refine Lib.hid ?_
                rw [(adds_run HE2.out (fun p hp => by rw [K0.out.2.1]; exact HCL.out p (HP.out.subset hp))).1]
                exact sums_perm HP.out
              go_wp2_with fail
              refine (copied_any a0 c0 n0 x0 w4 (K0.out.1.mono B4.out (Nat.le_refl _)) K0.out.2.1 K0.out.2.2.2 (by omega)).mono ?_
              rintro e w5 ⟨s8, d8, rfl, ho, hb⟩
              have O5 := Lib.hid (O4.out.more hb ho hz4); have B5 := Lib.hid (Below.more B4.out hb hz4)
              have hz5 : w.heap.size ≤ w5.heap.size := B5.out.size
              clear ho hb O4 B4 hz4
              go_wp2_with fail
              refine (run64_any w5 s8 e0 s1 s2 s3 d8 g0 d1 d2 d3 n0 j x0 (adds P bs) K0.out.2.1 (by rw [adds_length HE2.out, hPl.out]) (O5.out.rdAt 8 rfl) (by rw [adds_kinds HE2.out, hPl.out]; exact O5.out.rdAt 3 rfl) (by rw [adds_cells HE2.out]; exact O5.out.rdAt 0 rfl) (by rw [adds_as HE2.out]; exact O5.out.rdAt 1 rfl) (by rw [adds_bs HE2.out]; exact O5.out.rdAt 2 rfl) (by omega) (by omega) (by intro d hd; have h1 : d.cell ∈ cellsOf (adds P bs) := List.mem_map.2 ⟨d, hd, rfl⟩; rw [adds_cells HE2.out] at h1; obtain ⟨p, hp, he⟩ := List.mem_map.1 h1; rw [← he]; exact HCL.out p (HP.out.subset hp))).mono ?_
              rintro e w6 ⟨s9, d9, s10, d10, rfl, ho, hb⟩
              have O6 := Lib.hid (O5.out.more hb ho hz5); have B6 := Lib.hid (Below.more B5.out hb hz5)
              have hz6 : w.heap.size ≤ w6.heap.size := B6.out.size
              clear ho hb O5 B5 hz5
              go_wp2_with fail
              refine (sameWords_any s6 s7 d6 d7 n0 n0 (sums x0 l) (sums x0 l) w6 (O6.out.rdAt 6 rfl) (O6.out.rdAt 7 rfl) (by rw [sums_length, K0.out.2.1]) (by rw [sums_length, K0.out.2.1]) (by omega) (by omega) true (by simp)).mono ?_
              rintro e w7 ⟨rfl, hb⟩
              have O7 := Lib.hid (O6.out.mono hb (Nat.le_refl _)); have B7 := Lib.hid (Below.more B6.out hb hz6)
              have hz7 : w.heap.size ≤ w7.heap.size := B7.out.size
              clear hb O6 B6 hz6
              go_wp2_with fail
              refine (sameWords_any s10 s7 d10 d7 n0 n0 (runL x0 (adds P bs)).2 (sums x0 l) w7 (O7.out.rdAt 10 rfl) (O7.out.rdAt 7 rfl) (by rw [runL_snd_length, K0.out.2.1]) (by rw [sums_length, K0.out.2.1]) (by omega) (by omega) true (by rw [HRP.out]; simp)).mono ?_
              rintro e w8 ⟨rfl, hb⟩
              have O8 := Lib.hid (O7.out.mono hb (Nat.le_refl _)); have B8 := Lib.hid (Below.more B7.out hb hz7)
              have hz8 : w.heap.size ≤ w8.heap.size := B8.out.size
              clear hb O7 B7 hz7
              go_wp2
              go_ret
              exact ⟨rfl, B8.out⟩
end Go.Proofs.Ytjjmjjbeecmmlaa
