/-
  The walk of FnUndone: what a script without stores has done is undone from its end on.
-/
import Derived.Test.YtjjmjjbeecmmlaaGrow
import Derived.Test.YtjjmjjbeecmmlaaUndonePlain
import Derived.Test.YtjjmjjbeecmmlaaFrame
namespace Go.Proofs.Ytjjmjjbeecmmlaa
set_option linter.unusedVariables false
set_option linter.unusedSimpArgs false
open Go.RowKit

def noStore (κ : BitVec 8) : BitVec 8 := if κ = 1#8 then 3#8 else κ
def noStores (sc : List (Call 64)) : List (Call 64) := sc.map fun d => { d with kind := noStore d.kind }

section
variable {sc : List (Call 64)}
theorem noStores_kinds : kindsOf (noStores sc) = (kindsOf sc).map noStore := by simp [noStores, kindsOf]
theorem noStores_cells : cellsOf (noStores sc) = cellsOf sc := by simp [noStores, cellsOf]
theorem noStores_as : asOf (noStores sc) = asOf sc := by simp [noStores, asOf]
theorem noStores_bs : bsOf (noStores sc) = bsOf sc := by simp [noStores, bsOf]
theorem noStores_length : (noStores sc).length = sc.length := by simp [noStores]
theorem noStores_cell {n : Nat} (h : ∀ d ∈ sc, d.cell < n) : ∀ d ∈ noStores sc, d.cell < n := by
  intro d hd
  obtain ⟨e, he, rfl⟩ := List.mem_map.1 hd
  exact h e he
theorem noStores_kind (h : ∀ d ∈ sc, d.kind.toNat < 7) : ∀ d ∈ noStores sc, ¬ d.kind = 1#8 ∧ d.kind.toNat < 7 := by
  intro d hd
  obtain ⟨e, he, rfl⟩ := List.mem_map.1 hd
  have := h e he
  simp only [noStore]
  split
  · exact ⟨by decide, by decide⟩
  · exact ⟨by assumption, this⟩
end

theorem scriptOf_kind {codes : List (BitVec 8)} {words : List (BitVec 64)} {n : Nat} : ∀ d ∈ scriptOf codes words n, d.kind.toNat < 7 := by
  intro d hd
  simp only [scriptOf, List.mem_mapIdx] at hd
  obtain ⟨i, hi, rfl⟩ := hd
  simp only [BitVec.toNat_ofNat]
  omega

theorem undoing_length {sc : List (Call 64)} {A : List (BitVec 64)} (h : A.length = sc.length) : (undoing sc A).length = sc.length := by simp [undoing, h]
theorem undoing_get {sc : List (Call 64)} {A : List (BitVec 64)} {k j : Nat} (hj : j < (undoing sc A).length) (hk : k < sc.length) (ha : k < A.length) (h : A.length = sc.length) (he : j + k + 1 = sc.length) : (undoing sc A)[j] = undo sc[k] A[k] := by
  simp only [undoing, List.getElem_reverse, List.length_zipWith, List.getElem_zipWith]
  have e : min sc.length A.length - 1 - j = k := by omega
  simp only [e]

set_option maxHeartbeats 3200000 in
set_option maxRecDepth 100000 in
theorem fnUndone_any (w : World) (a0 : Option Addr) (n0 c0 : Nat) (x0 : List (BitVec 64)) (k0 : Came w a0 n0 c0 (U x0)) (a1 : Option Addr) (n1 c1 : Nat) (x1 : List (BitVec 8)) (k1 : Came w a1 n1 c1 (U8 x1)) (a2 : Option Addr) (n2 c2 : Nat) (x2 : List (BitVec 64)) (k2 : Came w a2 n2 c2 (U x2)) (bd : n0 + n1 + n2 ≤ 1048576) :
    Calls Try.prog 7 #[.slice a0 n0 c0, .slice a1 n1 c1, .slice a2 n2 c2] w fun e w' => e = .returned (.bool true) ∧ Below w.heap.size w w' := by
  have K0 := Lib.hid k0.u64; have K1 := Lib.hid k1.u8; have K2 := Lib.hid k2.u64
  clear k0 k1 k2
  by_cases h0 : n0 = 0
  · subst h0
    go_enter Try.func7, Try.ntmps7
    go_wp2
    go_ret
    exact ⟨rfl, Below.refl _ _⟩
  have t0 : ((n0 : Int) == 0) = false := by simp; omega
  have t1 : ((n1 : Int) != (n1 : Int)) = false := by simp
  have t2 : ((n0 : Int) != (n0 : Int)) = false := by simp
  have p0 : 0 < n0 := by omega
  obtain ⟨sc, hsc⟩ : ∃ sc, scriptOf x1 x2 n0 = sc := ⟨_, rfl⟩
  have HL : Hid (sc.length = n1) := by show _ = _; rw [← hsc, scriptOf_length, K1.out.2.1]
  have HC : Hid (∀ c ∈ sc, c.cell < n0) := by show ∀ c ∈ sc, _; rw [← hsc]; exact scriptOf_cell p0
  have H7 : Hid (∀ d ∈ sc, d.kind.toNat < 7) := by show ∀ c ∈ sc, _; rw [← hsc]; exact scriptOf_kind
  have HSC := Lib.hid hsc
  clear hsc
  obtain ⟨sc', hsc'⟩ : ∃ sc', noStores sc = sc' := ⟨_, rfl⟩
  have HL' : Hid (sc'.length = n1) := by show _ = _; rw [← hsc', noStores_length, HL.out]
  have HC' : Hid (∀ c ∈ sc', c.cell < n0) := by show ∀ c ∈ sc', _; rw [← hsc']; exact noStores_cell HC.out
  have H7' : Hid (∀ d ∈ sc', ¬ d.kind = 1#8 ∧ d.kind.toNat < 7) := by show ∀ c ∈ sc', _; rw [← hsc']; exact noStores_kind H7.out
  have HKA : Hid (asOf sc = asOf sc' ∧ bsOf sc = bsOf sc' ∧ cellsOf sc = cellsOf sc' ∧ (kindsOf sc).map noStore = kindsOf sc') := by
    refine Lib.hid ?_
    rw [← hsc', noStores_as, noStores_bs, noStores_cells, noStores_kinds]
    exact ⟨rfl, rfl, rfl, rfl⟩
  clear hsc' H7 HC
  obtain ⟨A, hA⟩ : ∃ A, (runL x0 sc').1 = A := ⟨_, rfl⟩
  obtain ⟨S, hS⟩ : ∃ S, (runL x0 sc').2 = S := ⟨_, rfl⟩
  have HLA : Hid (A.length = n1) := by show _ = _; rw [← hA, runL_fst_length, HL'.out]
  have HLS : Hid (S.length = n0) := by show _ = _; rw [← hS, runL_snd_length, K0.out.2.1]
  have HU : Hid ((runL S (undoing sc' A)).2 = x0) := by
    refine Lib.hid ?_
    rw [← hA, ← hS]
    exact undone (fun d hd => (H7'.out d hd).1) (fun d hd => (H7'.out d hd).2) (fun d hd => by rw [K0.out.2.1]; exact HC'.out d hd)
  have HLU : Hid ((undoing sc' A).length = n1) := by show _ = _; rw [undoing_length (by rw [HLA.out, HL'.out]), HL'.out]
  have HA := Lib.hid hA; have HS := Lib.hid hS
  clear hA hS
  have O0 := Lib.hid (Owns.nil w w.heap.size); have B0 := Lib.hid (Below.refl w.heap.size w)
  have hz0 : w.heap.size ≤ w.heap.size := Nat.le_refl _
  go_enter Try.func7, Try.ntmps7
  go_wp2_with fail
  refine (script_any w a1 a2 c1 c2 n0 n1 n2 x1 x2 sc HSC.out K1.out.2.1 K2.out.2.1 K1.out.1 K2.out.1 (by omega) p0 (by omega) (by omega)).mono ?_
  rintro e w1 ⟨s0, d0, s1, d1, s2, d2, s3, d3, rfl, ho, hb⟩
  have O1 := Lib.hid (O0.out.more hb ho hz0); have B1 := Lib.hid (Below.more B0.out hb hz0)
  have hz1 : w.heap.size ≤ w1.heap.size := B1.out.size
  clear ho hb O0 B0 hz0
  go_wp2
  go_loopw [39] (fun i wr => ∃ k : Nat, k ≤ n1 ∧ i = .int .i64 k ∧ Owns wr w.heap.size [⟨5, s0, n1, d0, U8 (mapTo noStore (kindsOf sc) k)⟩, ⟨3, s1, n1, d1, NI (cellsOf sc)⟩, ⟨30, s2, n1, d2, U (asOf sc)⟩, ⟨30, s3, n1, d3, U (bsOf sc)⟩] ∧ Below w.heap.size w wr) (fun i _ => n1 - (intOf i).toNat)
  case atStart => exact ⟨0, Nat.zero_le _, rfl, by rw [mapTo_zero]; exact O1.out, B1.out⟩
  case round =>
    clear O1 B1 hz1
    obtain ⟨k, hk, rfl, ho, hb⟩ := hrel
    have hsz := hb.size
    by_cases hlt : k < n1
    · have lk : k < (kindsOf sc).length := by simp [HL.out]; exact hlt
      have lm : k < (mapTo noStore (kindsOf sc) k).length := by simpa using lk
      obtain ⟨b0, rfl⟩ := ho.addr 0 rfl (k := k) (by simpa using lm)
      have q0 := ho.get8 0 rfl lm
      have f0 := ho.free 0 rfl k
      rw [mapTo_get lk] at q0
      obtain ⟨κ, hκ⟩ : ∃ κ, (kindsOf sc)[k] = κ := ⟨_, rfl⟩
      rw [hκ] at q0
      by_cases h1 : κ = 1#8
      · subst h1
        obtain ⟨ho2, hb2⟩ := Owns.stored (p := []) ho rfl k (.int .u8 3)
        have hR : Hid (Owns (wr.setCell ⟨b0, k, none⟩ (.int .u8 3)) w.heap.size [⟨5, some ⟨b0, 0, none⟩, n1, d0, U8 (mapTo noStore (kindsOf sc) (k + 1))⟩, ⟨3, s1, n1, d1, NI (cellsOf sc)⟩, ⟨30, s2, n1, d2, U (asOf sc)⟩, ⟨30, s3, n1, d3, U (bsOf sc)⟩]) := by
          refine Lib.hid ?_
          have e := U8_set (xs := mapTo noStore (kindsOf sc) k) (i := k) 3#8
          have e2 := mapTo_set (f := noStore) lk
          rw [hκ, show noStore 1#8 = 3#8 from rfl] at e2
          rw [← e2, ← e]
          exact ho2
        have hT := Lib.hid (hb.trans hb2)
        replace q0 : wr.cell? ⟨b0, k, none⟩ = some (.int .u8 1) := q0
        clear ho2 hb2 ho hb hκ
        go_wp2
        go_roundw
        case rel => exact ⟨k + 1, by omega, by go_num, hR.out, hT.out⟩
        case measure => simp [intOf]; omega
      · have tk : ((κ.toNat : Int) == 1) = false := by rw [beq_eq_false_iff_ne]; intro h; exact h1 (BitVec.eq_of_toNat_eq (by simp; omega))
        have hR : Hid (Owns wr w.heap.size [⟨5, some ⟨b0, 0, none⟩, n1, d0, U8 (mapTo noStore (kindsOf sc) (k + 1))⟩, ⟨3, s1, n1, d1, NI (cellsOf sc)⟩, ⟨30, s2, n1, d2, U (asOf sc)⟩, ⟨30, s3, n1, d3, U (bsOf sc)⟩]) := by
          refine Lib.hid ?_
          rw [mapTo_keep lk (by rw [hκ]; simp [noStore, h1])]
          exact ho
        have hT := Lib.hid hb
        clear ho hb hκ h1
        go_wp2
        go_roundw
        case rel => exact ⟨k + 1, by omega, by go_num, hR.out, hT.out⟩
        case measure => simp [intOf]; omega
    · rw [mapTo_all (by simp [HL.out]; omega), HKA.out.2.2.2] at ho
      obtain ⟨w1, rfl⟩ : ∃ w1 : World, w1 = wr := ⟨_, rfl⟩
      have O1 := Lib.hid ho; have B1 := Lib.hid hb; have hz1 := hsz
      clear ho hb hsz
      go_wp2_with fail
      refine (copied_any a0 c0 n0 x0 w1 (K0.out.1.mono B1.out (Nat.le_refl _)) K0.out.2.1 K0.out.2.2.2 (by omega)).mono ?_
      rintro e w2 ⟨s4, d4, rfl, ho, hb⟩
      have O2 := Lib.hid (O1.out.more hb ho hz1); have B2 := Lib.hid (Below.more B1.out hb hz1)
      have hz2 : w.heap.size ≤ w2.heap.size := B2.out.size
      clear ho hb O1 B1 hz1
      go_wp2_with fail
      refine (run64_any w2 s4 s0 s1 s2 s3 d4 d0 d1 d2 d3 n0 n1 x0 sc' K0.out.2.1 HL'.out (O2.out.rdAt 4 rfl) (O2.out.rdAt 0 rfl) (by rw [← HKA.out.2.2.1]; exact O2.out.rdAt 1 rfl) (by rw [← HKA.out.1]; exact O2.out.rdAt 2 rfl) (by rw [← HKA.out.2.1]; exact O2.out.rdAt 3 rfl) (by omega) (by omega) HC'.out).mono ?_
      rintro e w3 ⟨s5, d5, s6, d6, rfl, ho, hb⟩
      rw [HA.out, HS.out] at ho
      have O3 := Lib.hid (O2.out.more hb ho hz2); have B3 := Lib.hid (Below.more B2.out hb hz2)
      have hz3 : w.heap.size ≤ w3.heap.size := B3.out.size
      clear ho hb O2 B2 hz2
      have hp := Lib.hid ((((O3.out.made hz3 5 #[] (by simp)).made (by simp; omega) 3 #[] (by simp)).made (by simp; omega) 30 #[] (by simp)).made (by simp; omega) 30 #[] (by simp))
      have hbp := Lib.hid ((((B3.out.alloc hz3 (.cells #[] 5)).alloc (by simp; omega) (.cells #[] 3)).alloc (by simp; omega) (.cells #[] 30)).alloc (by simp; omega) (.cells #[] 30))
      clear O3 B3
      go_wp2
      go_loopw [18, 14, 15, 16, 17] (fun i v0 v1 v2 v3 wr => ∃ (j k : Nat) (z : Int) (e0 e1 e2 e3 : Option Addr) (g0 g1 g2 g3 : Nat), j + k = n1 ∧ z + 1 = k ∧ i = .int .i64 z ∧ v0 = .slice e0 j g0 ∧ v1 = .slice e1 j g1 ∧ v2 = .slice e2 j g2 ∧ v3 = .slice e3 j g3 ∧ Owns wr w.heap.size [⟨5, s0, n1, d0, U8 (kindsOf sc')⟩, ⟨3, s1, n1, d1, NI (cellsOf sc)⟩, ⟨30, s2, n1, d2, U (asOf sc)⟩, ⟨30, s3, n1, d3, U (bsOf sc)⟩, ⟨30, s4, n0, d4, U x0⟩, ⟨30, s5, n1, d5, U A⟩, ⟨30, s6, n0, d6, U S⟩, ⟨5, e0, j, g0, U8 (kindsOf ((undoing sc' A).take j))⟩, ⟨3, e1, j, g1, NI (cellsOf ((undoing sc' A).take j))⟩, ⟨30, e2, j, g2, U (asOf ((undoing sc' A).take j))⟩, ⟨30, e3, j, g3, U (bsOf ((undoing sc' A).take j))⟩] ∧ Below w.heap.size w wr) (fun i _ _ _ _ _ => (intOf i + 1).toNat)
      case atStart => exact ⟨0, n1, _, _, _, _, _, _, _, _, _, by omega, by omega, rfl, rfl, rfl, rfl, rfl, by simpa [kindsOf, cellsOf, asOf, bsOf] using hp.out, hbp.out⟩
      case round =>
        clear hp hbp hz3
        obtain ⟨j, k, z, e0, e1, e2, e3, g0, g1, g2, g3, hjk, hz, rfl, rfl, rfl, rfl, rfl, ho, hb⟩ := hrel
        have hsz := hb.size
        cases k with
        | zero =>
          obtain rfl : z = -1 := by omega
          obtain rfl : j = n1 := by omega
          rw [List.take_of_length_le (by rw [HLU.out]; omega)] at ho
          obtain ⟨w4, rfl⟩ : ∃ w4 : World, w4 = wr := ⟨_, rfl⟩
          have O4 := Lib.hid ho; have B4 := Lib.hid hb; have hz4 := hsz
          clear ho hb hsz hjk hz
          go_wp2_with fail
          refine (run64_any w4 s6 e0 e1 e2 e3 d6 g0 g1 g2 g3 n0 j S (undoing sc' A) HLS.out HLU.out (O4.out.rdAt 6 rfl) (O4.out.rdAt 7 rfl) (O4.out.rdAt 8 rfl) (O4.out.rdAt 9 rfl) (O4.out.rdAt 10 rfl) (by omega) (by omega) (by intro d hd; simp only [undoing, List.mem_reverse] at hd; obtain ⟨i, hi, hid⟩ := List.getElem_of_mem hd; rw [List.getElem_zipWith] at hid; subst hid; rw [undo_cell]; exact HC'.out _ (List.getElem_mem _))).mono ?_
          rintro e w5 ⟨s8, d8, s9, d9, rfl, ho, hb⟩
          have O5 := Lib.hid (O4.out.more hb ho hz4); have B5 := Lib.hid (Below.more B4.out hb hz4)
          have hz5 : w.heap.size ≤ w5.heap.size := B5.out.size
          clear ho hb O4 B4 hz4
          go_wp2_with fail
          refine (sameWords_any s9 a0 d9 c0 n0 n0 (runL S (undoing sc' A)).2 x0 w5 (O5.out.rdAt 12 rfl) (K0.out.1.mono B5.out (Nat.le_refl _)) (by rw [runL_snd_length, HLS.out]) K0.out.2.1 (by omega) (by omega) true (by rw [HU.out]; simp)).mono ?_
          rintro e w6 ⟨rfl, hb⟩
          have O6 := Lib.hid (O5.out.mono hb (Nat.le_refl _)); have B6 := Lib.hid (Below.more B5.out hb hz5)
          have hz6 : w.heap.size ≤ w6.heap.size := B6.out.size
          clear hb O5 B5 hz5
          go_wp2
          go_ret
          exact ⟨rfl, B6.out⟩
        | succ k =>
          obtain rfl : z = (k : Int) := by omega
          have hkn : k < n1 := by omega
          have lx : k < sc'.length := by rw [HL'.out]; exact hkn
          have la : k < A.length := by rw [HLA.out]; exact hkn
          have lu : j < (undoing sc' A).length := by rw [HLU.out]; omega
          have HG : Hid ((undoing sc' A)[j] = undo sc'[k] A[k]) := undoing_get lu lx la (by rw [HLA.out, HL'.out]) (by rw [HL'.out]; omega)
          obtain ⟨κ, cl, x, y, hcall⟩ : ∃ κ cl x y, sc'[k] = ⟨κ, cl, x, y⟩ := ⟨_, _, _, _, rfl⟩
          obtain ⟨r, hr⟩ : ∃ r, A[k] = r := ⟨_, rfl⟩
          have hκ7 := H7'.out _ (List.getElem_mem lx)
          rw [hcall] at HG hκ7
          rw [hr] at HG
          have HO' : Hid (Owns wr w.heap.size [⟨5, s0, n1, d0, U8 (kindsOf sc')⟩, ⟨3, s1, n1, d1, NI (cellsOf sc)⟩, ⟨30, s2, n1, d2, U (asOf sc)⟩, ⟨30, s3, n1, d3, U (bsOf sc)⟩, ⟨30, s4, n0, d4, U x0⟩, ⟨30, s5, n1, d5, U A⟩, ⟨30, s6, n0, d6, U S⟩, ⟨5, e0, j, g0, U8 (kindsOf ((undoing sc' A).take j))⟩, ⟨3, e1, j, g1, NI (cellsOf ((undoing sc' A).take j))⟩, ⟨30, e2, j, g2, U (asOf ((undoing sc' A).take j))⟩, ⟨30, e3, j, g3, U (bsOf ((undoing sc' A).take j))⟩]) := Lib.hid ho
          rw [HKA.out.1, HKA.out.2.1, HKA.out.2.2.1] at ho
          obtain ⟨b0, b1, b2, b3, rfl, rfl, rfl, rfl⟩ := ho.calls (i := 0) rfl rfl rfl rfl lx
          obtain ⟨b5, rfl⟩ := ho.addr 5 rfl (k := k) (by simpa using la)
          have HK := Lib.hid hcall; have HRr := Lib.hid hr
          obtain ⟨q0, q1, q2, q3⟩ := ho.call (i := 0) rfl rfl rfl rfl lx HK.out
          have q5 := ho.get64 5 rfl la
          rw [HRr.out] at q5
          have HO := Lib.hid ho; have HB := Lib.hid hb
          have H1 := Lib.hid hκ7.1; have H7 := Lib.hid hκ7.2
          have hj : j < 1048577 := by omega
          have HJK := Lib.hid hjk
          clear ho hb hcall hr hκ7 HO' hjk hz
          by_cases h0 : κ = 0#8
          · subst h0
            replace q0 : wr.cell? ⟨b0, k, none⟩ = some (.int .u8 0) := q0
            have HU1 : Hid (undo ⟨0#8, cl, x, y⟩ r = ⟨0#8, cl, r, 0⟩) := by show _ = _; simp [undo]
            go_wp2
            go_quiet (fail)
            generalize hwq : wr.drewN nq = wq
            have HOq := Lib.hid (hwq ▸ HO.out.drewN nq); have HBq := Lib.hid (hwq ▸ below_drewN HB.out nq)
            have hsq : w.heap.size ≤ wq.heap.size := HBq.out.size
            obtain ⟨q0, q1, q2, q3⟩ := HOq.out.call (i := 0) rfl rfl rfl rfl lx HK.out
            have q5 := HOq.out.get64 5 rfl la
            rw [HRr.out] at q5
            clear hwq HO HB
            go_wp2_with (at_builtin; refine app5s [_, _, _, _, _, _, _] [_, _, _] (.tmp 116) (.tmp 118) rfl rfl wq.heap.size rfl rfl rfl HOq.out rfl (by omega) (by omega) ?_)
            intro f0 j0 u1 ho1 hb1 hs1
            obtain ⟨_, q1', _, _⟩ := ho1.call (i := 0) rfl rfl rfl rfl lx HK.out
            have HO1 := Lib.hid ho1; have HB1 := Lib.hid (HBq.out.trans hb1)
            clear ho1 hb1 HOq HBq q0 q1 q2 q3 q5
            go_wp2_with (at_builtin; refine app3s [_, _, _, _, _, _, _, _] [_, _] (.tmp 120) (.tmp 125) rfl rfl u1.heap.size rfl rfl rfl HO1.out rfl (by omega) (by omega) ?_)
            intro f1 j1 u2 ho2 hb2 hs2
            have HO2 := Lib.hid ho2; have HB2 := Lib.hid (HB1.out.trans hb2)
            clear ho2 hb2 HO1 HB1 q1'
            go_wp2_with (at_builtin; refine app30s [_, _, _, _, _, _, _, _, _] [_] (.tmp 127) (.tmp 129) rfl rfl u2.heap.size rfl rfl rfl HO2.out rfl (by omega) (by omega) ?_)
            intro f2 j2 u3 ho3 hb3 hs3
            have HO3 := Lib.hid ho3; have HB3 := Lib.hid (HB2.out.trans hb3)
            clear ho3 hb3 HO2 HB2
            go_wp2_with (at_builtin; refine app30s [_, _, _, _, _, _, _, _, _, _] [] (.tmp 131) (.tmp 133) rfl rfl u3.heap.size rfl rfl rfl HO3.out rfl (by omega) (by omega) ?_)
            intro f3 j3 u4 ho4 hb4 hs4
            have hT := Lib.hid (HB3.out.trans hb4)
            have hR := Lib.hid (rows_step (p := [_, _, _, _, _, _, _]) lu (HG.out.trans HU1.out) rfl rfl rfl rfl rfl ho4)
            have hR2 : Hid (Owns u4 w.heap.size [⟨5, some ⟨b0, 0, none⟩, n1, d0, U8 (kindsOf sc')⟩, ⟨3, some ⟨b1, 0, none⟩, n1, d1, NI (cellsOf sc)⟩, ⟨30, some ⟨b2, 0, none⟩, n1, d2, U (asOf sc)⟩, ⟨30, some ⟨b3, 0, none⟩, n1, d3, U (bsOf sc)⟩, ⟨30, s4, n0, d4, U x0⟩, ⟨30, some ⟨b5, 0, none⟩, n1, d5, U A⟩, ⟨30, s6, n0, d6, U S⟩, ⟨5, f0, j + 1, j0, U8 (kindsOf ((undoing sc' A).take (j + 1)))⟩, ⟨3, f1, j + 1, j1, NI (cellsOf ((undoing sc' A).take (j + 1)))⟩, ⟨30, f2, j + 1, j2, U (asOf ((undoing sc' A).take (j + 1)))⟩, ⟨30, f3, j + 1, j3, U (bsOf ((undoing sc' A).take (j + 1)))⟩]) := by
              refine Lib.hid ?_
              rw [HKA.out.1, HKA.out.2.1, HKA.out.2.2.1]
              exact hR.out
            clear ho4 hb4 HO3 HB3 hR
            go_wp2
            go_roundw
            case rel => exact ⟨j + 1, k, (k : Int) - 1, f0, f1, f2, f3, j0, j1, j2, j3, by have := HJK.out; omega, by omega, rfl, rfl, rfl, rfl, rfl, hR2.out, hT.out⟩
            case measure => first | (simp [intOf]; done) | (simp [intOf]; omega)
          by_cases h2 : κ = 2#8
          · subst h2
            replace q0 : wr.cell? ⟨b0, k, none⟩ = some (.int .u8 2) := q0
            have HU1 : Hid (undo ⟨2#8, cl, x, y⟩ r = ⟨2#8, cl, -x, 0⟩) := by show _ = _; simp [undo]
            have hng := u64_neg x
            obtain ⟨nx, hnx⟩ : ∃ nx, -x = nx := ⟨_, rfl⟩
            rw [hnx] at hng HU1
            clear hnx h0
            go_wp2
            go_quiet (fail)
            generalize hwq : wr.drewN nq = wq
            have HOq := Lib.hid (hwq ▸ HO.out.drewN nq); have HBq := Lib.hid (hwq ▸ below_drewN HB.out nq)
            have hsq : w.heap.size ≤ wq.heap.size := HBq.out.size
            obtain ⟨q0, q1, q2, q3⟩ := HOq.out.call (i := 0) rfl rfl rfl rfl lx HK.out
            have q5 := HOq.out.get64 5 rfl la
            rw [HRr.out] at q5
            clear hwq HO HB
            go_wp2_with (at_builtin; refine app5s [_, _, _, _, _, _, _] [_, _, _] (.tmp 116) (.tmp 118) rfl rfl wq.heap.size rfl rfl rfl HOq.out rfl (by omega) (by omega) ?_)
            intro f0 j0 u1 ho1 hb1 hs1
            obtain ⟨_, q1', _, _⟩ := ho1.call (i := 0) rfl rfl rfl rfl lx HK.out
            have HO1 := Lib.hid ho1; have HB1 := Lib.hid (HBq.out.trans hb1)
            clear ho1 hb1 HOq HBq q0 q1 q2 q3 q5
            go_wp2_with (at_builtin; refine app3s [_, _, _, _, _, _, _, _] [_, _] (.tmp 120) (.tmp 125) rfl rfl u1.heap.size rfl rfl rfl HO1.out rfl (by omega) (by omega) ?_)
            intro f1 j1 u2 ho2 hb2 hs2
            have HO2 := Lib.hid ho2; have HB2 := Lib.hid (HB1.out.trans hb2)
            clear ho2 hb2 HO1 HB1 q1'
            go_wp2_with (at_builtin; refine app30s [_, _, _, _, _, _, _, _, _] [_] (.tmp 127) (.tmp 129) rfl rfl u2.heap.size rfl rfl rfl HO2.out rfl (by omega) (by omega) ?_)
            intro f2 j2 u3 ho3 hb3 hs3
            have HO3 := Lib.hid ho3; have HB3 := Lib.hid (HB2.out.trans hb3)
            clear ho3 hb3 HO2 HB2
            go_wp2_with (at_builtin; refine app30s [_, _, _, _, _, _, _, _, _, _] [] (.tmp 131) (.tmp 133) rfl rfl u3.heap.size rfl rfl rfl HO3.out rfl (by omega) (by omega) ?_)
            intro f3 j3 u4 ho4 hb4 hs4
            have hT := Lib.hid (HB3.out.trans hb4)
            have hR := Lib.hid (rows_step (p := [_, _, _, _, _, _, _]) lu (HG.out.trans HU1.out) rfl rfl rfl rfl rfl ho4)
            have hR2 : Hid (Owns u4 w.heap.size [⟨5, some ⟨b0, 0, none⟩, n1, d0, U8 (kindsOf sc')⟩, ⟨3, some ⟨b1, 0, none⟩, n1, d1, NI (cellsOf sc)⟩, ⟨30, some ⟨b2, 0, none⟩, n1, d2, U (asOf sc)⟩, ⟨30, some ⟨b3, 0, none⟩, n1, d3, U (bsOf sc)⟩, ⟨30, s4, n0, d4, U x0⟩, ⟨30, some ⟨b5, 0, none⟩, n1, d5, U A⟩, ⟨30, s6, n0, d6, U S⟩, ⟨5, f0, j + 1, j0, U8 (kindsOf ((undoing sc' A).take (j + 1)))⟩, ⟨3, f1, j + 1, j1, NI (cellsOf ((undoing sc' A).take (j + 1)))⟩, ⟨30, f2, j + 1, j2, U (asOf ((undoing sc' A).take (j + 1)))⟩, ⟨30, f3, j + 1, j3, U (bsOf ((undoing sc' A).take (j + 1)))⟩]) := by
              refine Lib.hid ?_
              rw [HKA.out.1, HKA.out.2.1, HKA.out.2.2.1]
              exact hR.out
            clear ho4 hb4 HO3 HB3 hR
            go_wp2
            go_roundw
            case rel => exact ⟨j + 1, k, (k : Int) - 1, f0, f1, f2, f3, j0, j1, j2, j3, by have := HJK.out; omega, by omega, rfl, rfl, rfl, rfl, rfl, hR2.out, hT.out⟩
            case measure => first | (simp [intOf]; done) | (simp [intOf]; omega)
          by_cases h4 : κ = 4#8
          · subst h4
            replace q0 : wr.cell? ⟨b0, k, none⟩ = some (.int .u8 4) := q0
            by_cases hr0 : r = 0#64
            · subst hr0
              replace q5 : wr.cell? ⟨b5, k, none⟩ = some (.int .u64 0) := q5
              have HU1 : Hid (undo ⟨4#8, cl, x, y⟩ 0#64 = ⟨0#8, cl, 0#64, 0⟩) := by show _ = _; simp [undo]
              clear h0 h2
              go_wp2
              go_quiet (fail)
              generalize hwq : wr.drewN nq = wq
              have HOq := Lib.hid (hwq ▸ HO.out.drewN nq); have HBq := Lib.hid (hwq ▸ below_drewN HB.out nq)
              have hsq : w.heap.size ≤ wq.heap.size := HBq.out.size
              obtain ⟨q0, q1, q2, q3⟩ := HOq.out.call (i := 0) rfl rfl rfl rfl lx HK.out
              have q5 := HOq.out.get64 5 rfl la
              rw [HRr.out] at q5
              clear hwq HO HB
              go_wp2_with (at_builtin; refine app5s [_, _, _, _, _, _, _] [_, _, _] (.tmp 116) (.tmp 118) rfl rfl wq.heap.size rfl rfl rfl HOq.out rfl (by omega) (by omega) ?_)
              intro f0 j0 u1 ho1 hb1 hs1
              obtain ⟨_, q1', _, _⟩ := ho1.call (i := 0) rfl rfl rfl rfl lx HK.out
              have HO1 := Lib.hid ho1; have HB1 := Lib.hid (HBq.out.trans hb1)
              clear ho1 hb1 HOq HBq q0 q1 q2 q3 q5
              go_wp2_with (at_builtin; refine app3s [_, _, _, _, _, _, _, _] [_, _] (.tmp 120) (.tmp 125) rfl rfl u1.heap.size rfl rfl rfl HO1.out rfl (by omega) (by omega) ?_)
              intro f1 j1 u2 ho2 hb2 hs2
              have HO2 := Lib.hid ho2; have HB2 := Lib.hid (HB1.out.trans hb2)
              clear ho2 hb2 HO1 HB1 q1'
              go_wp2_with (at_builtin; refine app30s [_, _, _, _, _, _, _, _, _] [_] (.tmp 127) (.tmp 129) rfl rfl u2.heap.size rfl rfl rfl HO2.out rfl (by omega) (by omega) ?_)
              intro f2 j2 u3 ho3 hb3 hs3
              have HO3 := Lib.hid ho3; have HB3 := Lib.hid (HB2.out.trans hb3)
              clear ho3 hb3 HO2 HB2
              go_wp2_with (at_builtin; refine app30s [_, _, _, _, _, _, _, _, _, _] [] (.tmp 131) (.tmp 133) rfl rfl u3.heap.size rfl rfl rfl HO3.out rfl (by omega) (by omega) ?_)
              intro f3 j3 u4 ho4 hb4 hs4
              have hT := Lib.hid (HB3.out.trans hb4)
              have hR := Lib.hid (rows_step (p := [_, _, _, _, _, _, _]) lu (HG.out.trans HU1.out) rfl rfl rfl rfl rfl ho4)
              have hR2 : Hid (Owns u4 w.heap.size [⟨5, some ⟨b0, 0, none⟩, n1, d0, U8 (kindsOf sc')⟩, ⟨3, some ⟨b1, 0, none⟩, n1, d1, NI (cellsOf sc)⟩, ⟨30, some ⟨b2, 0, none⟩, n1, d2, U (asOf sc)⟩, ⟨30, some ⟨b3, 0, none⟩, n1, d3, U (bsOf sc)⟩, ⟨30, s4, n0, d4, U x0⟩, ⟨30, some ⟨b5, 0, none⟩, n1, d5, U A⟩, ⟨30, s6, n0, d6, U S⟩, ⟨5, f0, j + 1, j0, U8 (kindsOf ((undoing sc' A).take (j + 1)))⟩, ⟨3, f1, j + 1, j1, NI (cellsOf ((undoing sc' A).take (j + 1)))⟩, ⟨30, f2, j + 1, j2, U (asOf ((undoing sc' A).take (j + 1)))⟩, ⟨30, f3, j + 1, j3, U (bsOf ((undoing sc' A).take (j + 1)))⟩]) := by
                refine Lib.hid ?_
                rw [HKA.out.1, HKA.out.2.1, HKA.out.2.2.1]
                exact hR.out
              clear ho4 hb4 HO3 HB3 hR
              go_wp2
              go_roundw
              case rel => exact ⟨j + 1, k, (k : Int) - 1, f0, f1, f2, f3, j0, j1, j2, j3, by have := HJK.out; omega, by omega, rfl, rfl, rfl, rfl, rfl, hR2.out, hT.out⟩
              case measure => first | (simp [intOf]; done) | (simp [intOf]; omega)
            · have tr : ((r.toNat : Int) == 0) = false := by rw [beq_eq_false_iff_ne]; intro h; exact hr0 (BitVec.eq_of_toNat_eq (by simp; omega))
              have HU1 : Hid (undo ⟨4#8, cl, x, y⟩ r = ⟨4#8, cl, y, x⟩) := by show _ = _; simp [undo, hr0]
              clear h0 h2 hr0
              go_wp2
              go_quiet (fail)
              generalize hwq : wr.drewN nq = wq
              have HOq := Lib.hid (hwq ▸ HO.out.drewN nq); have HBq := Lib.hid (hwq ▸ below_drewN HB.out nq)
              have hsq : w.heap.size ≤ wq.heap.size := HBq.out.size
              obtain ⟨q0, q1, q2, q3⟩ := HOq.out.call (i := 0) rfl rfl rfl rfl lx HK.out
              have q5 := HOq.out.get64 5 rfl la
              rw [HRr.out] at q5
              clear hwq HO HB
              go_wp2_with (at_builtin; refine app5s [_, _, _, _, _, _, _] [_, _, _] (.tmp 116) (.tmp 118) rfl rfl wq.heap.size rfl rfl rfl HOq.out rfl (by omega) (by omega) ?_)
              intro f0 j0 u1 ho1 hb1 hs1
              obtain ⟨_, q1', _, _⟩ := ho1.call (i := 0) rfl rfl rfl rfl lx HK.out
              have HO1 := Lib.hid ho1; have HB1 := Lib.hid (HBq.out.trans hb1)
              clear ho1 hb1 HOq HBq q0 q1 q2 q3 q5
              go_wp2_with (at_builtin; refine app3s [_, _, _, _, _, _, _, _] [_, _] (.tmp 120) (.tmp 125) rfl rfl u1.heap.size rfl rfl rfl HO1.out rfl (by omega) (by omega) ?_)
              intro f1 j1 u2 ho2 hb2 hs2
              have HO2 := Lib.hid ho2; have HB2 := Lib.hid (HB1.out.trans hb2)
              clear ho2 hb2 HO1 HB1 q1'
              go_wp2_with (at_builtin; refine app30s [_, _, _, _, _, _, _, _, _] [_] (.tmp 127) (.tmp 129) rfl rfl u2.heap.size rfl rfl rfl HO2.out rfl (by omega) (by omega) ?_)
              intro f2 j2 u3 ho3 hb3 hs3
              have HO3 := Lib.hid ho3; have HB3 := Lib.hid (HB2.out.trans hb3)
              clear ho3 hb3 HO2 HB2
              go_wp2_with (at_builtin; refine app30s [_, _, _, _, _, _, _, _, _, _] [] (.tmp 131) (.tmp 133) rfl rfl u3.heap.size rfl rfl rfl HO3.out rfl (by omega) (by omega) ?_)
              intro f3 j3 u4 ho4 hb4 hs4
              have hT := Lib.hid (HB3.out.trans hb4)
              have hR := Lib.hid (rows_step (p := [_, _, _, _, _, _, _]) lu (HG.out.trans HU1.out) rfl rfl rfl rfl rfl ho4)
              have hR2 : Hid (Owns u4 w.heap.size [⟨5, some ⟨b0, 0, none⟩, n1, d0, U8 (kindsOf sc')⟩, ⟨3, some ⟨b1, 0, none⟩, n1, d1, NI (cellsOf sc)⟩, ⟨30, some ⟨b2, 0, none⟩, n1, d2, U (asOf sc)⟩, ⟨30, some ⟨b3, 0, none⟩, n1, d3, U (bsOf sc)⟩, ⟨30, s4, n0, d4, U x0⟩, ⟨30, some ⟨b5, 0, none⟩, n1, d5, U A⟩, ⟨30, s6, n0, d6, U S⟩, ⟨5, f0, j + 1, j0, U8 (kindsOf ((undoing sc' A).take (j + 1)))⟩, ⟨3, f1, j + 1, j1, NI (cellsOf ((undoing sc' A).take (j + 1)))⟩, ⟨30, f2, j + 1, j2, U (asOf ((undoing sc' A).take (j + 1)))⟩, ⟨30, f3, j + 1, j3, U (bsOf ((undoing sc' A).take (j + 1)))⟩]) := by
                refine Lib.hid ?_
                rw [HKA.out.1, HKA.out.2.1, HKA.out.2.2.1]
                exact hR.out
              clear ho4 hb4 HO3 HB3 hR
              go_wp2
              go_roundw
              case rel => exact ⟨j + 1, k, (k : Int) - 1, f0, f1, f2, f3, j0, j1, j2, j3, by have := HJK.out; omega, by omega, rfl, rfl, rfl, rfl, rfl, hR2.out, hT.out⟩
              case measure => first | (simp [intOf]; done) | (simp [intOf]; omega)
          have t0' : ((κ.toNat : Int) == 0) = false := by rw [beq_eq_false_iff_ne]; intro h; exact h0 (BitVec.eq_of_toNat_eq (by simp; omega))
          have t2' : ((κ.toNat : Int) == 2) = false := by rw [beq_eq_false_iff_ne]; intro h; exact h2 (BitVec.eq_of_toNat_eq (by simp; omega))
          have t4' : ((κ.toNat : Int) == 4) = false := by rw [beq_eq_false_iff_ne]; intro h; exact h4 (BitVec.eq_of_toNat_eq (by simp; omega))
          have HU1 : Hid (undo ⟨κ, cl, x, y⟩ r = ⟨1#8, cl, r, 0⟩) := by show _ = _; simp [undo, h0, h2, h4]
          clear h0 h2 h4
          go_wp2
          go_quiet (fail)
          generalize hwq : wr.drewN nq = wq
          have HOq := Lib.hid (hwq ▸ HO.out.drewN nq); have HBq := Lib.hid (hwq ▸ below_drewN HB.out nq)
          have hsq : w.heap.size ≤ wq.heap.size := HBq.out.size
          obtain ⟨q0, q1, q2, q3⟩ := HOq.out.call (i := 0) rfl rfl rfl rfl lx HK.out
          have q5 := HOq.out.get64 5 rfl la
          rw [HRr.out] at q5
          clear hwq HO HB
          go_wp2_with (at_builtin; refine app5s [_, _, _, _, _, _, _] [_, _, _] (.tmp 116) (.tmp 118) rfl rfl wq.heap.size rfl rfl rfl HOq.out rfl (by omega) (by omega) ?_)
          intro f0 j0 u1 ho1 hb1 hs1
          obtain ⟨_, q1', _, _⟩ := ho1.call (i := 0) rfl rfl rfl rfl lx HK.out
          have HO1 := Lib.hid ho1; have HB1 := Lib.hid (HBq.out.trans hb1)
          clear ho1 hb1 HOq HBq q0 q1 q2 q3 q5
          go_wp2_with (at_builtin; refine app3s [_, _, _, _, _, _, _, _] [_, _] (.tmp 120) (.tmp 125) rfl rfl u1.heap.size rfl rfl rfl HO1.out rfl (by omega) (by omega) ?_)
          intro f1 j1 u2 ho2 hb2 hs2
          have HO2 := Lib.hid ho2; have HB2 := Lib.hid (HB1.out.trans hb2)
          clear ho2 hb2 HO1 HB1 q1'
          go_wp2_with (at_builtin; refine app30s [_, _, _, _, _, _, _, _, _] [_] (.tmp 127) (.tmp 129) rfl rfl u2.heap.size rfl rfl rfl HO2.out rfl (by omega) (by omega) ?_)
          intro f2 j2 u3 ho3 hb3 hs3
          have HO3 := Lib.hid ho3; have HB3 := Lib.hid (HB2.out.trans hb3)
          clear ho3 hb3 HO2 HB2
          go_wp2_with (at_builtin; refine app30s [_, _, _, _, _, _, _, _, _, _] [] (.tmp 131) (.tmp 133) rfl rfl u3.heap.size rfl rfl rfl HO3.out rfl (by omega) (by omega) ?_)
          intro f3 j3 u4 ho4 hb4 hs4
          have hT := Lib.hid (HB3.out.trans hb4)
          have hR := Lib.hid (rows_step (p := [_, _, _, _, _, _, _]) lu (HG.out.trans HU1.out) rfl rfl rfl rfl rfl ho4)
          have hR2 : Hid (Owns u4 w.heap.size [⟨5, some ⟨b0, 0, none⟩, n1, d0, U8 (kindsOf sc')⟩, ⟨3, some ⟨b1, 0, none⟩, n1, d1, NI (cellsOf sc)⟩, ⟨30, some ⟨b2, 0, none⟩, n1, d2, U (asOf sc)⟩, ⟨30, some ⟨b3, 0, none⟩, n1, d3, U (bsOf sc)⟩, ⟨30, s4, n0, d4, U x0⟩, ⟨30, some ⟨b5, 0, none⟩, n1, d5, U A⟩, ⟨30, s6, n0, d6, U S⟩, ⟨5, f0, j + 1, j0, U8 (kindsOf ((undoing sc' A).take (j + 1)))⟩, ⟨3, f1, j + 1, j1, NI (cellsOf ((undoing sc' A).take (j + 1)))⟩, ⟨30, f2, j + 1, j2, U (asOf ((undoing sc' A).take (j + 1)))⟩, ⟨30, f3, j + 1, j3, U (bsOf ((undoing sc' A).take (j + 1)))⟩]) := by
            refine Lib.hid ?_
            rw [HKA.out.1, HKA.out.2.1, HKA.out.2.2.1]
            exact hR.out
          clear ho4 hb4 HO3 HB3 hR
          go_wp2
          go_roundw
          case rel => exact ⟨j + 1, k, (k : Int) - 1, f0, f1, f2, f3, j0, j1, j2, j3, by have := HJK.out; omega, by omega, rfl, rfl, rfl, rfl, rfl, hR2.out, hT.out⟩
          case measure => first | (simp [intOf]; done) | (simp [intOf]; omega)
end Go.Proofs.Ytjjmjjbeecmmlaa
