/-
  The walk of FnTickets: adding 1 gives tickets in order.
-/
import Derived.Test.YtjjmjjbeecmmlabGrow
import Derived.Test.YtjjmjjbeecmmlabSwapPlain
import Derived.Test.YtjjmjjbeecmmlabFrame
namespace Go.Proofs.Ytjjmjjbeecmmlab
set_option linter.unusedVariables false
set_option linter.unusedSimpArgs false
open Go.RowKit

/-- A slice made by 'make', beside rows of the call's own. -/
theorem Owns.makes {wp w1 : World} {B : Nat} {L : List Row} {e : TypeId} {n b : Nat} {xs : List Value} (h : Owns wp B L) (hB : B ≤ wp.heap.size) (hb : wp.heap.size = b) (ho : w1.ownsRow b e 1 (.slice (some ⟨b, 0, none⟩) n n) n xs) (hg : wp.grownBy w1 none) :
    Owns w1 B (L ++ [⟨e, some ⟨b, 0, none⟩, n, n, xs⟩]) ∧ Below wp.heap.size wp w1 := by
  subst hb
  have hbl := (Below.refl wp.heap.size wp).grown hg (Nat.le_refl _) (by simp)
  exact ⟨h.more hbl ⟨by intro r hr; simp at hr; subst hr; exact ho, by simp⟩ hB, hbl⟩

set_option maxHeartbeats 1600000 in
set_option maxRecDepth 100000 in
theorem fnTickets_any (w : World) (x0 : BitVec 64) (a1 : Option Addr) (n1 c1 : Nat) (x1 : List (BitVec 8)) (k1 : Came w a1 n1 c1 (U8 x1)) (bd : n1 ≤ 1048576) :
    Calls Try.prog 6 #[.int .u64 (x0.toNat : Int), .slice a1 n1 c1] w fun e w' => e = .returned (.bool true) ∧ Below w.heap.size w w' := by
  obtain ⟨i0, hi, hz0, hz1, hz2⟩ := info_parts info30
  have K1 := Lib.hid k1.u8
  clear k1
  obtain ⟨sc, hsc⟩ : ∃ sc, List.replicate n1 ticket = sc := ⟨_, rfl⟩
  have HL : Hid (sc.length = n1) := by show _ = _; rw [← hsc, List.length_replicate]
  have HC : Hid (∀ c ∈ sc, c.cell < 1) := by
    refine Lib.hid fun c hc => ?_
    rw [← hsc] at hc
    rw [List.eq_of_mem_replicate hc]
    exact Nat.zero_lt_one
  have HCG : Hid (∀ k (h : k < sc.length), sc[k] = ticket) := by refine Lib.hid ?_; subst hsc; intro k h; simp
  have hp := Lib.hid (((((Owns.nil w w.heap.size).made (Nat.le_refl _) 5 #[] (by simp)).made (by simp) 3 #[] (by simp)).made (by simp; omega) 28 #[] (by simp)).made (by simp; omega) 28 #[] (by simp))
  have hbp := Lib.hid (((((Below.refl w.heap.size w).alloc (Nat.le_refl _) (.cells #[] 5)).alloc (by simp) (.cells #[] 3)).alloc (by simp; omega) (.cells #[] 28)).alloc (by simp; omega) (.cells #[] 28))
  obtain ⟨F, hF0⟩ : ∃ F, x0.toNat / 2 = F := ⟨_, rfl⟩
  have hF : ((x0.toNat : Int) / 2) = (F : Int) := by rw [← hF0]; simp
  have bF : F < 9223372036854775808 := by have := x0.isLt; omega
  obtain ⟨AN, hAN⟩ : ∃ A, (runL [BitVec.ofNat 64 F] sc).1 = A := ⟨_, rfl⟩
  obtain ⟨LA, hLA⟩ : ∃ A, (runL [BitVec.ofNat 64 F] sc).2 = A := ⟨_, rfl⟩
  have HLN : Hid (AN.length = n1) := by show _ = _; rw [← hAN, runL_fst_length, HL.out]
  have HAT : Hid (∀ k (h : k < AN.length), (AN[k].toNat : Int) = (F : Int) + (k : Int) + 1) := by
    refine Lib.hid fun k h => ?_
    have hk : k < n1 := by rw [HLN.out] at h; exact h
    subst hAN hsc
    simp only [tickets_run, List.getElem_map, List.getElem_range, BitVec.toNat_add, BitVec.toNat_ofNat]
    omega
  have HLT : Hid (∃ y : BitVec 64, LA = [y] ∧ (y.toNat : Int) = (F : Int) + (n1 : Int)) := by
    refine Lib.hid ⟨BitVec.ofNat 64 F + BitVec.ofNat 64 n1, ?_, ?_⟩
    · rw [← hLA, ← hsc, tickets_run]
    · simp only [BitVec.toNat_add, BitVec.toNat_ofNat]
      omega
  have HAN := Lib.hid hAN; have HLA := Lib.hid hLA
  clear hF0 hAN hLA hsc
  go_enter Try.func6, Try.ntmps6
  go_wp2
  go_loopw [22, 5, 6, 7, 8] (fun i v0 v1 v2 v3 wr => ∃ (k : Nat) (e0 e1 e2 e3 : Option Addr) (g0 g1 g2 g3 : Nat), k ≤ n1 ∧ i = .int .i64 k ∧ v0 = .slice e0 k g0 ∧ v1 = .slice e1 k g1 ∧ v2 = .slice e2 k g2 ∧ v3 = .slice e3 k g3 ∧ Owns wr w.heap.size [⟨5, e0, k, g0, U8 (kindsOf (sc.take k))⟩, ⟨3, e1, k, g1, NI (cellsOf (sc.take k))⟩, ⟨28, e2, k, g2, U (asOf (sc.take k))⟩, ⟨28, e3, k, g3, U (bsOf (sc.take k))⟩] ∧ Below w.heap.size w wr) (fun i _ _ _ _ _ => n1 - (intOf i).toNat)
  case atStart => exact ⟨0, _, _, _, _, _, _, _, _, Nat.zero_le _, rfl, rfl, rfl, rfl, rfl, by simpa [kindsOf, cellsOf, asOf, bsOf] using hp.out, hbp.out⟩
  case round =>
    clear hp hbp
    obtain ⟨k, e0, e1, e2, e3, g0, g1, g2, g3, hk, rfl, rfl, rfl, rfl, rfl, ho, hb⟩ := hrel
    have hsz := hb.size
    by_cases hlt : k < n1
    · have ls : k < sc.length := by rw [HL.out]; exact hlt
      have HD := Lib.hid (HCG.out k ls)
      have HO := Lib.hid ho; have HB := Lib.hid hb
      clear ho hb
      go_wp2_with (at_builtin; refine app5s [] [_, _, _] (.tmp 24) (.tmp 25) rfl rfl wr.heap.size rfl rfl rfl HO.out rfl (by omega) (by omega) ?_)
      intro f0 j0 u1 ho1 hb1 hs1
      have HO1 := Lib.hid ho1; have HB1 := Lib.hid (HB.out.trans hb1)
      clear ho1 hb1 HO HB
      go_wp2_with (at_builtin; refine app3s [_] [_, _] (.tmp 27) (.tmp 28) rfl rfl u1.heap.size rfl rfl rfl HO1.out rfl (by omega) (by omega) ?_)
      intro f1 j1 u2 ho2 hb2 hs2
      have HO2 := Lib.hid ho2; have HB2 := Lib.hid (HB1.out.trans hb2)
      clear ho2 hb2 HO1 HB1
      go_wp2_with (at_builtin; refine app30s [_, _] [_] (.tmp 30) (.tmp 31) rfl rfl u2.heap.size rfl rfl rfl HO2.out rfl (by omega) (by omega) ?_)
      intro f2 j2 u3 ho3 hb3 hs3
      have HO3 := Lib.hid ho3; have HB3 := Lib.hid (HB2.out.trans hb3)
      clear ho3 hb3 HO2 HB2
      go_wp2_with (at_builtin; refine app30s [_, _, _] [] (.tmp 33) (.tmp 34) rfl rfl u3.heap.size rfl rfl rfl HO3.out rfl (by omega) (by omega) ?_)
      intro f3 j3 u4 ho4 hb4 hs4
      have hR := Lib.hid (rows_step (p := []) ls HD.out rfl rfl rfl rfl rfl ho4)
      have HB4 := Lib.hid (HB3.out.trans hb4)
      clear ho4 hb4 HO3 HB3
      go_wp2
      go_roundw
      case rel => exact ⟨k + 1, f0, f1, f2, f3, j0, j1, j2, j3, by omega, by go_num, rfl, rfl, rfl, rfl, hR.out, HB4.out⟩
      case measure => simp [intOf]; omega
    · rw [List.take_of_length_le (by rw [HL.out]; omega)] at ho
      have hkn : n1 = k := by omega
      subst hkn
      obtain ⟨w1, rfl⟩ : ∃ w1 : World, w1 = wr := ⟨_, rfl⟩
      have O1 := Lib.hid ho; have B1 := Lib.hid hb; have hz1 := hsz
      clear ho hb hsz
      have HZ2 : Hid ([Value.int .u64 (F : Int)] = U [BitVec.ofNat 64 F]) := by refine Lib.hid ?_; simp [U]; omega
      have O2 := Lib.hid (O1.out.made hz1 28 #[.int .u64 (F : Int)] (by simp [maxLen])); have B2 := Lib.hid (B1.out.alloc hz1 (.cells #[.int .u64 (F : Int)] 28))
      have hz2 := Lib.hid B2.out.size
      clear O1 B1 hz1
      go_wp2_with fail
      refine (run64_any _ (some ⟨w1.heap.size, 0, none⟩) e0 e1 e2 e3 1 g0 g1 g2 g3 1 n1 [BitVec.ofNat 64 F] sc rfl HL.out (by have := O2.out.rdAt 4 rfl; rw [← HZ2.out]; exact this) (O2.out.rdAt 0 rfl) (O2.out.rdAt 1 rfl) (O2.out.rdAt 2 rfl) (O2.out.rdAt 3 rfl) (by omega) (by omega) HC.out).mono ?_
      rintro e w3 ⟨s1, d1, s2, d2, rfl, ho, hb⟩
      have O3 := Lib.hid (O2.out.more hb ho hz2); have B3 := Lib.hid (Below.more B2.out hb hz2)
      have hz3 : w.heap.size ≤ w3.heap.size := B3.out.size
      clear ho hb O2 B2 hz2
      rw [HAN.out, HLA.out] at O3
      obtain ⟨y, hy, hyt⟩ := HLT.out
      rw [hy] at O3
      clear hy
      obtain ⟨b2, rfl⟩ := O3.out.addr 6 rfl (k := 0) (by simp)
      have q2 := O3.out.get64 6 rfl (k := 0) (by simp)
      replace q2 : w3.cell? ⟨b2, 0, none⟩ = some (.int .u64 (y.toNat : Int)) := q2
      rw [hyt] at q2
      clear hyt
      have t1 : ((n1 : Int) != (n1 : Int)) = false := by simp
      have t2 : (((F : Int) + (n1 : Int)) != ((F : Int) + (n1 : Int))) = false := by simp
      go_wp2_with (at_make; refine wpList_make_full _ rfl _ _ 22 rfl w3.heap.size 28 i0 (.int .u64 0) 1 Try.underlying22 hi hz0 hz1 .i64 .i64 _ _ 256 rfl rfl rfl rfl (by rw [hz2]; decide) (by simp only [maxLen]; omega) (Nat.le_refl _) ?_)
      intro w4 ho4 hg4
      rw [made_u64] at ho4
      obtain ⟨hoA, hbA⟩ := O3.out.makes (b := w3.heap.size) hz3 rfl ho4 hg4
      have O4 := Lib.hid (hoA.drop (L' := [⟨28, s1, n1, d1, U AN⟩, ⟨28, some ⟨w3.heap.size, 0, none⟩, 256, 256, U (List.replicate 256 0)⟩]) (by repeat (first | exact List.nil_sublist _ | apply List.Sublist.cons_cons | apply List.Sublist.cons)))
      have B4 := Lib.hid (Below.more B3.out hbA hz3)
      have hz4 : w.heap.size ≤ w4.heap.size := B4.out.size
      clear ho4 hg4 hoA hbA O3 B3 q2 hi hz0 hz1 hz2
      obtain ⟨nb, hnb⟩ : ∃ nb, w3.heap.size = nb := ⟨_, rfl⟩
      rw [hnb] at O4 ⊢
      clear hnb
      go_wp2
      go_loopw [71] (fun i wr => ∃ (k : Nat) (NW : List (BitVec 64)), k ≤ n1 ∧ i = .int .i64 k ∧ NW.length = 256 ∧ (∀ i (h : i < NW.length), NW[i].toNat ≤ F + k) ∧ Owns wr w.heap.size [⟨28, s1, n1, d1, U AN⟩, ⟨28, some ⟨nb, 0, none⟩, 256, 256, U NW⟩] ∧ Below w.heap.size w wr) (fun i _ => n1 - (intOf i).toNat)
      case atStart => exact ⟨0, _, Nat.zero_le _, rfl, List.length_replicate, fun i h => by rw [List.getElem_replicate]; simp, O4.out, B4.out⟩
      case round =>
        clear O4 B4 hz4
        obtain ⟨k, NW, hk, rfl, hnl, hle, ho, hb⟩ := hrel
        have hsz := hb.size
        by_cases hlt : k < n1
        · have lx : k < x1.length := by rw [K1.out.2.1]; exact hlt
          have la : k < AN.length := by rw [HLN.out]; exact hlt
          obtain ⟨ba, oa, rfl, qa⟩ := at_u8 K1.out.1 hb (Nat.le_refl _) lx
          obtain ⟨x, hx⟩ : ∃ x, x1[k] = x := ⟨_, rfl⟩
          rw [hx] at qa
          have bx := x.isLt
          have ln : x.toNat < NW.length := by omega
          obtain ⟨b1, rfl⟩ := ho.addr 0 rfl (k := k) (by simpa using la)
          have q1 := ho.get64 0 rfl la
          rw [HAT.out k la] at q1
          have q2 := ho.get64 1 rfl ln
          have hn2 := hle x.toNat ln
          obtain ⟨y, hy⟩ : ∃ y, NW[x.toNat].toNat = y := ⟨_, rfl⟩
          rw [hy] at q2 hn2
          have f2 := ho.free 1 rfl x.toNat
          have t2 : (((F : Int) + (k : Int) + 1) != ((F : Int) + (k : Int) + 1)) = false := by simp
          have t3 : ¬ ((F : Int) + (k : Int) + 1 ≤ (y : Int)) := by omega
          have HX : Hid (∀ v : World, Owns v w.heap.size [⟨28, some ⟨b1, 0, none⟩, n1, d1, U AN⟩, ⟨28, some ⟨nb, 0, none⟩, 256, 256, U NW⟩] → Owns (v.setCell ⟨nb, x.toNat, none⟩ (.int .u64 ((F : Int) + (k : Int) + 1))) w.heap.size [⟨28, some ⟨b1, 0, none⟩, n1, d1, U AN⟩, ⟨28, some ⟨nb, 0, none⟩, 256, 256, U (NW.set x.toNat AN[k])⟩] ∧ Below w.heap.size v (v.setCell ⟨nb, x.toNat, none⟩ (.int .u64 ((F : Int) + (k : Int) + 1)))) := by
            refine Lib.hid fun v hv => ?_
            have := Owns.stored (p := [_]) hv rfl x.toNat (.int .u64 ((F : Int) + (k : Int) + 1))
            rw [← HAT.out k la] at this ⊢
            rw [U_set] at this
            exact this
          have HNW : Hid (∀ i (h : i < (NW.set x.toNat AN[k]).length), (NW.set x.toNat AN[k])[i].toNat ≤ F + (k + 1)) := by
            refine Lib.hid fun i h => ?_
            rw [List.getElem_set]
            split
            · have := HAT.out k la
              omega
            · have := hle i (by simpa using h)
              omega
          have HNL := Lib.hid hnl
          have HO := Lib.hid ho; have HB := Lib.hid hb
          clear ho hb hx hy hle hnl ln
          go_wp2
          go_quiet (fail)
          have HOq := Lib.hid (HO.out.drewN nq); have HBq := Lib.hid (below_drewN HB.out nq)
          generalize hwq : wr.drewN nq = wq at HOq HBq ⊢
          clear hwq q1 q2 f2 HO HB
          have q1 := HOq.out.get64 0 rfl la
          rw [HAT.out k la] at q1
          have f2 := HOq.out.free 1 rfl x.toNat
          obtain ⟨u, q2⟩ := HOq.out.has 1 rfl (k := x.toNat) (by simp [HNL.out]; omega)
          obtain ⟨ho2, hb2⟩ := HX.out wq HOq.out
          have HR := Lib.hid ho2; have HT := Lib.hid (HBq.out.trans hb2)
          clear ho2 hb2 HX HOq HBq
          go_wp2
          go_roundw
          case rel => exact ⟨k + 1, NW.set x.toNat AN[k], by omega, by go_num, by rw [List.length_set, HNL.out], HNW.out, HR.out, HT.out⟩
          case measure => simp [intOf]; omega
        · have HB := Lib.hid hb
          clear ho hb hle
          go_wp2
          go_ret
          exact ⟨rfl, HB.out⟩
end Go.Proofs.Ytjjmjjbeecmmlab
