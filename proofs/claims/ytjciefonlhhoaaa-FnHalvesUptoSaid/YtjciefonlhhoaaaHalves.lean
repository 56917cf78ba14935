/-
  The walk of FnHalves: calls of cells of 64 bits do to both halves what the same calls of two cells of 32 bits do.
-/
import Derived.Test.YtjciefonlhhoaaaHalvesPlain
import Derived.Test.YtjciefonlhhoaaaStep2
import Derived.Test.YtjciefonlhhoaaaSlices
import Derived.Test.YtjciefonlhhoaaaGrow
import Derived.Test.YtjciefonlhhoaaaFrame
import Derived.Deep.CutRange
namespace Go.Proofs.Ytjciefonlhhoaaa
set_option linter.unusedVariables false
set_option linter.unusedSimpArgs false
open Go.RowKit

theorem split_take {l : List (BitVec 64)} {k : Nat} (h : k < l.length) : split (l.take (k + 1)) = split (l.take k) ++ [lo l[k], hi l[k]] := by
  rw [List.take_succ_eq_append_getElem h, split_append]
  rfl
theorem halved_take {l : List (Call 64)} {k : Nat} (h : k < l.length) : halved (l.take (k + 1)) = halved (l.take k) ++ [lower l[k], upper l[k]] := by
  unfold halved
  rw [List.take_succ_eq_append_getElem h, List.flatMap_append]
  rfl
theorem halves_rows {sc : List (Call 64)} {k : Nat} (h : k < sc.length) {c : Call 64} (hc : sc[k] = c) :
    U8 (kindsOf (halved ((sc.map swapCall).take (k + 1)))) = U8 (kindsOf (halved ((sc.map swapCall).take k))) ++ [.int .u8 ((swapped c.kind).toNat : Int), .int .u8 ((swapped c.kind).toNat : Int)] ∧
    NI (cellsOf (halved ((sc.map swapCall).take (k + 1)))) = NI (cellsOf (halved ((sc.map swapCall).take k))) ++ [.int .i64 (2 * (c.cell : Int)), .int .i64 (2 * (c.cell : Int) + 1)] ∧
    U32 (asOf (halved ((sc.map swapCall).take (k + 1)))) = U32 (asOf (halved ((sc.map swapCall).take k))) ++ [.int .u32 ((lo c.a).toNat : Int), .int .u32 ((hi c.a).toNat : Int)] ∧
    U32 (bsOf (halved ((sc.map swapCall).take (k + 1)))) = U32 (bsOf (halved ((sc.map swapCall).take k))) ++ [.int .u32 ((lo c.b).toNat : Int), .int .u32 ((hi c.b).toNat : Int)] := by
  rw [halved_take (l := sc.map swapCall) (by simpa using h)]
  have e : (sc.map swapCall)[k]'(by simpa using h) = swapCall c := by rw [List.getElem_map, hc]
  rw [e]
  simp [kindsOf, cellsOf, asOf, bsOf, U8, NI, U32, lower, upper, swapCall]
theorem halved_length : ∀ l : List (Call 64), (halved l).length = 2 * l.length := by
  intro l
  induction l with
  | nil => rfl
  | cons c l ih => show (lower c :: upper c :: halved l).length = _; simp [ih]; omega
theorem U32_two (l : List (BitVec 32)) (x y : BitVec 32) : U32 (l ++ [x, y]) = U32 l ++ [.int .u32 (x.toNat : Int), .int .u32 (y.toNat : Int)] := by simp [U32]

theorem lowS (x : BitVec 64) (w : World) : Calls Try.prog 5 #[.int .u64 (x.toNat : Int)] w fun e w' => e = .returned (.int .u32 ((lo x).toNat : Int)) ∧ w = w' :=
  (lowHalf_any x w).mono fun _ _ h => ⟨h.1, h.2.symm⟩
theorem highS (x : BitVec 64) (w : World) : Calls Try.prog 6 #[.int .u64 (x.toNat : Int)] w fun e w' => e = .returned (.int .u32 ((hi x).toNat : Int)) ∧ w = w' :=
  (highHalf_any x w).mono fun _ _ h => ⟨h.1, h.2.symm⟩

section
variable {w : World} {B : Nat} {L : List Row} {e : TypeId} {n c b k : Nat} {xs : List (BitVec 64)}
theorem Owns.getLow (h : Owns w B L) (i : Nat) (hi : L[i]? = some ⟨e, some ⟨b, 0, none⟩, n, c, U32 (split xs)⟩) (hk : k < xs.length) : w.cell? ⟨b, 2 * k, none⟩ = some (.int .u32 ((lo xs[k]).toNat : Int)) := by
  have hl : 2 * k < (split xs).length := by rw [split_length]; omega
  have h1 := h.get32 i hi hl
  have h2 := split_low xs k
  rw [List.getElem?_eq_getElem hl, List.getElem?_eq_getElem hk] at h2
  rw [h1, Option.some.inj h2]
theorem Owns.getHigh (h : Owns w B L) (i : Nat) (hi : L[i]? = some ⟨e, some ⟨b, 0, none⟩, n, c, U32 (split xs)⟩) (hk : k < xs.length) : w.cell? ⟨b, 2 * k + 1, none⟩ = some (.int .u32 ((Go.Proofs.Ytjciefonlhhoaaa.hi xs[k]).toNat : Int)) := by
  have hl : 2 * k + 1 < (split xs).length := by rw [split_length]; omega
  have h1 := h.get32 i hi hl
  have h2 := split_high xs k
  rw [List.getElem?_eq_getElem hl, List.getElem?_eq_getElem hk] at h2
  rw [h1, Option.some.inj h2]
end

set_option maxHeartbeats 16000000 in
set_option maxRecDepth 100000 in
theorem fnHalves_any (w : World) (a0 : Option Addr) (n0 c0 : Nat) (x0 : List (BitVec 64)) (k0 : Came w a0 n0 c0 (U x0)) (a1 : Option Addr) (n1 c1 : Nat) (x1 : List (BitVec 8)) (k1 : Came w a1 n1 c1 (U8 x1)) (a2 : Option Addr) (n2 c2 : Nat) (x2 : List (BitVec 64)) (k2 : Came w a2 n2 c2 (U x2)) (bd : n0 + n1 + n2 ≤ 1048576) :
    Calls Try.prog 3 #[.slice a0 n0 c0, .slice a1 n1 c1, .slice a2 n2 c2] w fun e w' => e = .returned (.bool true) ∧ Below w.heap.size w w' := by
  have K0 := Lib.hid k0.u64; have K1 := Lib.hid k1.u8; have K2 := Lib.hid k2.u64
  clear k0 k1 k2
  by_cases h0 : n0 = 0
  · subst h0
    go_enter Try.func3, Try.ntmps3
    go_wp2
    go_ret
    exact ⟨rfl, Below.refl _ _⟩
  have t0 : ((n0 : Int) == 0) = false := by simp; omega
  have t1 : ((n1 : Int) != (n1 : Int)) = false := by simp
  have t2 : ((n0 : Int) != (n0 : Int)) = false := by simp
  obtain ⟨sc, hsc⟩ : ∃ sc, scriptOf x1 x2 n0 = sc := ⟨_, rfl⟩
  have HSC := Lib.hid hsc
  have HL : Hid (sc.length = n1) := by show _ = _; rw [← hsc, scriptOf_length]; exact K1.out.2.1
  have HC : Hid (∀ c ∈ sc, c.cell < n0) := by show _; rw [← hsc]; exact scriptOf_cell (by omega)
  clear hsc
  have O0 := Lib.hid (Owns.nil w w.heap.size); have B0 := Lib.hid (Below.refl w.heap.size w)
  have hz0 : w.heap.size ≤ w.heap.size := Nat.le_refl _
  go_enter Try.func3, Try.ntmps3
  go_wp2_with fail
  refine (script_any w a1 a2 c1 c2 n0 n1 n2 x1 x2 sc HSC.out K1.out.2.1 K2.out.2.1 K1.out.1 K2.out.1 (by omega) (by omega) (by omega) (by omega)).mono ?_
  rintro e w1 ⟨s0, d0, s1, d1, s2, d2, s3, d3, rfl, ho, hb⟩
  have O1 := Lib.hid (O0.out.more hb ho hz0); have B1 := Lib.hid (Below.more B0.out hb hz0)
  have hz1 : w.heap.size ≤ w1.heap.size := B1.out.size
  clear ho hb O0 B0 hz0
  have O2 := Lib.hid (O1.out.made hz1 29 #[] (by simp)); have B2 := Lib.hid (B1.out.alloc hz1 (.cells #[] 29))
  clear O1 B1
  go_wp2
  go_loopw [43, 11] (fun i v wr => ∃ (k : Nat) (e0 : Option Addr) (g0 : Nat), k ≤ n0 ∧ i = .int .i64 k ∧ v = .slice e0 (2 * k) g0 ∧ Owns wr w.heap.size [⟨5, s0, n1, d0, U8 (kindsOf sc)⟩, ⟨3, s1, n1, d1, NI (cellsOf sc)⟩, ⟨28, s2, n1, d2, U (asOf sc)⟩, ⟨28, s3, n1, d3, U (bsOf sc)⟩, ⟨29, e0, 2 * k, g0, U32 (split (x0.take k))⟩] ∧ Below w.heap.size w wr) (fun i _ _ => n0 - (intOf i).toNat)
  case atStart => exact ⟨0, _, _, Nat.zero_le _, rfl, rfl, O2.out, B2.out⟩
  case round =>
    clear O2 B2
    obtain ⟨k, e0, g0, hk, rfl, rfl, ho, hb⟩ := hrel
    have hsz := hb.size
    by_cases hlt : k < n0
    · have lx : k < x0.length := by rw [K0.out.2.1]; exact hlt
      obtain ⟨ba, oa, rfl, qa⟩ := at_u64 K0.out.1 hb (Nat.le_refl _) lx
      have HST := Lib.hid (split_take lx)
      obtain ⟨x, hx⟩ : ∃ x, x0[k] = x := ⟨_, rfl⟩
      rw [hx] at qa HST
      have HO := Lib.hid ho; have HB := Lib.hid hb
      clear ho hb hx
      go_wp2_with fail
      refine (lowHalf_any x _).mono ?_
      rintro e w4 ⟨rfl, rfl⟩
      go_wp2_with fail
      refine (highHalf_any x _).mono ?_
      rintro e w5 ⟨rfl, rfl⟩
      go_wp2_with (at_builtin; refine app32d [_, _, _, _] [] (.tmp 47) (.tmp 52) rfl rfl w5.heap.size rfl rfl rfl HO.out rfl rfl (by omega) (by omega) ?_)
      intro e1 g1 w6 ho6 hb6 hs6
      have HO6 : Hid (Owns w6 w.heap.size [⟨5, s0, n1, d0, U8 (kindsOf sc)⟩, ⟨3, s1, n1, d1, NI (cellsOf sc)⟩, ⟨28, s2, n1, d2, U (asOf sc)⟩, ⟨28, s3, n1, d3, U (bsOf sc)⟩, ⟨29, e1, 2 * (k + 1), g1, U32 (split (x0.take (k + 1)))⟩]) := by
        refine Lib.hid ?_
        rw [HST.out, U32_two]
        exact ho6
      have HB6 := Lib.hid (HB.out.trans hb6)
      clear ho6 hb6 HO HB
      go_wp2
      go_roundw
      case rel => exact ⟨k + 1, e1, g1, by omega, by go_num, rfl, HO6.out, HB6.out⟩
      case measure => simp [intOf] <;> omega
    · have hkn : n0 = k := by omega
      subst hkn
      rw [List.take_of_length_le (by rw [K0.out.2.1]; omega)] at ho
      obtain ⟨s4, rfl⟩ : ∃ s, s = e0 := ⟨_, rfl⟩
      obtain ⟨d4, rfl⟩ : ∃ s, s = g0 := ⟨_, rfl⟩
      obtain ⟨H, hH⟩ : ∃ H, (fun k => halved ((sc.map swapCall).take k)) = H := ⟨_, rfl⟩
      have HH0 : Hid (H 0 = []) := by show _ = _; rw [← hH]; rfl
      have HHS : Hid (∀ k (h : k < sc.length) (c : Call 64), sc[k] = c → U8 (kindsOf (H (k + 1))) = U8 (kindsOf (H k)) ++ [.int .u8 ((swapped c.kind).toNat : Int), .int .u8 ((swapped c.kind).toNat : Int)] ∧ NI (cellsOf (H (k + 1))) = NI (cellsOf (H k)) ++ [.int .i64 (2 * (c.cell : Int)), .int .i64 (2 * (c.cell : Int) + 1)] ∧ U32 (asOf (H (k + 1))) = U32 (asOf (H k)) ++ [.int .u32 ((lo c.a).toNat : Int), .int .u32 ((hi c.a).toNat : Int)] ∧ U32 (bsOf (H (k + 1))) = U32 (bsOf (H k)) ++ [.int .u32 ((lo c.b).toNat : Int), .int .u32 ((hi c.b).toNat : Int)]) := by refine Lib.hid fun k h c hc => ?_; rw [← hH]; exact halves_rows h hc
      have HHH := Lib.hid hH
      clear hH
      have O5 := Lib.hid ((((ho.made hsz 5 #[] (by simp)).made (by simp; omega) 3 #[] (by simp)).made (by simp; omega) 29 #[] (by simp)).made (by simp; omega) 29 #[] (by simp))
      have B5 := Lib.hid ((((hb.alloc hsz (.cells #[] 5)).alloc (by simp; omega) (.cells #[] 3)).alloc (by simp; omega) (.cells #[] 29)).alloc (by simp; omega) (.cells #[] 29))
      clear ho hb
      go_wp2
      go_loopw [61, 14, 15, 16, 17] (fun i v0 v1 v2 v3 wr => ∃ (k : Nat) (e0 e1 e2 e3 : Option Addr) (g0 g1 g2 g3 : Nat), k ≤ n1 ∧ i = .int .i64 k ∧ v0 = .slice e0 (2 * k) g0 ∧ v1 = .slice e1 (2 * k) g1 ∧ v2 = .slice e2 (2 * k) g2 ∧ v3 = .slice e3 (2 * k) g3 ∧ Owns wr w.heap.size [⟨5, s0, n1, d0, U8 (mapTo swapped (kindsOf sc) k)⟩, ⟨3, s1, n1, d1, NI (cellsOf sc)⟩, ⟨28, s2, n1, d2, U (asOf sc)⟩, ⟨28, s3, n1, d3, U (bsOf sc)⟩, ⟨29, s4, 2 * n0, d4, U32 (split x0)⟩, ⟨5, e0, 2 * k, g0, U8 (kindsOf (H k))⟩, ⟨3, e1, 2 * k, g1, NI (cellsOf (H k))⟩, ⟨29, e2, 2 * k, g2, U32 (asOf (H k))⟩, ⟨29, e3, 2 * k, g3, U32 (bsOf (H k))⟩] ∧ Below w.heap.size w wr) (fun i _ _ _ _ _ => n1 - (intOf i).toNat)
      case atStart =>
        refine ⟨0, _, _, _, _, _, _, _, _, Nat.zero_le _, rfl, rfl, rfl, rfl, rfl, ?_, B5.out⟩
        rw [HH0.out, mapTo_zero]
        have h := O5.out
        simpa [kindsOf, cellsOf, asOf, bsOf] using h
      case round =>
        clear O5 B5
        obtain ⟨k, e0, e1, e2, e3, g0, g1, g2, g3, hk, rfl, rfl, rfl, rfl, rfl, ho, hb⟩ := hrel
        have hsz := hb.size
        by_cases hlt : k < n1
        · have ls : k < sc.length := by rw [HL.out]; exact hlt
          have lC : k < (cellsOf sc).length := by simpa using ls
          have lA : k < (asOf sc).length := by simpa using ls
          have lB : k < (bsOf sc).length := by simpa using ls
          have lK : k < (kindsOf sc).length := by simpa using ls
          have lM : k < (mapTo swapped (kindsOf sc) k).length := by simpa using ls
          obtain ⟨c, hc⟩ : ∃ c, sc[k] = c := ⟨_, rfl⟩
          have HR := Lib.hid (HHS.out k ls c hc)
          have hcl : c.cell < n0 := HC.out c (by rw [← hc]; exact List.getElem_mem ls)
          obtain ⟨κ, hκ⟩ : ∃ κ, c.kind = κ := ⟨_, rfl⟩
          have HKK : Hid ((kindsOf sc)[k] = κ) := by refine Lib.hid ?_; rw [kindsOf_get lK, hc, hκ]
          have HCC : Hid ((cellsOf sc)[k] = c.cell) := by refine Lib.hid ?_; rw [cellsOf_get lC, hc]
          have HAA : Hid ((asOf sc)[k] = c.a) := by refine Lib.hid ?_; rw [asOf_get lA, hc]
          have HBB : Hid ((bsOf sc)[k] = c.b) := by refine Lib.hid ?_; rw [bsOf_get lB, hc]
          rw [hκ] at HR
          obtain ⟨κ', hκ'⟩ : ∃ κ', swapped κ = κ' := ⟨_, rfl⟩
          rw [hκ'] at HR
          clear hc hκ
          obtain ⟨b0, rfl⟩ := ho.addr 0 rfl (k := k) (by simpa using ls)
          have q0 : wr.cell? ⟨b0, k, none⟩ = some (.int .u8 (κ.toNat : Int)) := by
            obtain ⟨b', hb', hc', _⟩ := ho.cellAt 0 rfl (j := k) (by simpa using ls)
            simp only [Option.some.injEq, Addr.mk.injEq, and_true] at hb'
            subst hb'
            rw [hc', U8_get lM, mapTo_get lK, HKK.out]
          have HQ0 : Hid (∀ (v : World), Owns v w.heap.size [⟨5, some ⟨b0, 0, none⟩, n1, d0, U8 (mapTo swapped (kindsOf sc) (k + 1))⟩, ⟨3, s1, n1, d1, NI (cellsOf sc)⟩, ⟨28, s2, n1, d2, U (asOf sc)⟩, ⟨28, s3, n1, d3, U (bsOf sc)⟩, ⟨29, s4, 2 * n0, d4, U32 (split x0)⟩, ⟨5, e0, 2 * k, g0, U8 (kindsOf (H k))⟩, ⟨3, e1, 2 * k, g1, NI (cellsOf (H k))⟩, ⟨29, e2, 2 * k, g2, U32 (asOf (H k))⟩, ⟨29, e3, 2 * k, g3, U32 (bsOf (H k))⟩] → v.cell? ⟨b0, k, none⟩ = some (.int .u8 (κ'.toNat : Int))) := by
            refine Lib.hid fun v hv => ?_
            obtain ⟨b', hb', hc', _⟩ := hv.cellAt 0 rfl (j := k) (by simpa using ls)
            simp only [Option.some.injEq, Addr.mk.injEq, and_true] at hb'
            subst hb'
            rw [hc', ← mapTo_set lK, HKK.out, hκ', ← U8_set, List.getElem?_set_self (by simpa using ls)]
          have HKS : Hid (swapped κ = κ') := Lib.hid hκ'
          clear hκ'
          have HB0 := Lib.hid hb; have HO0 := Lib.hid ho
          obtain ⟨bb, hbb⟩ : ∃ bb, decide (κ = 2#8 ∨ κ = 4#8) = bb := ⟨_, rfl⟩
          have HBO := Lib.hid hbb
          clear hbb
          clear hb ho
          go_upto_region 14 with fail
          go_cut [75] from 62 to 130 (fun v wx => v = .bool bb ∧ wx = wr)
          case first =>
            by_cases h2 : κ = 2#8
            · subst h2
              go_wp2_with fail
              go_meet
              exact ⟨by rw [← HBO.out]; rfl, rfl⟩
            by_cases h4 : κ = 4#8
            · subst h4
              go_wp2_with fail
              go_meet
              exact ⟨by rw [← HBO.out]; rfl, rfl⟩
            have t2k : ((κ.toNat : Int) == 2) = false := by
              simp only [beq_eq_false_iff_ne, ne_eq]
              intro h
              exact h2 (BitVec.eq_of_toNat_eq (by simp; omega))
            have t4k : ((κ.toNat : Int) == 4) = false := by
              simp only [beq_eq_false_iff_ne, ne_eq]
              intro h
              exact h4 (BitVec.eq_of_toNat_eq (by simp; omega))
            have HD : Hid (bb = false) := by refine Lib.hid ?_; rw [← HBO.out]; simp [h2, h4]
            go_wp2_with fail
            go_meet
            exact ⟨by rw [HD.out], rfl⟩
          case rest =>
            obtain ⟨rfl, rfl⟩ := hcut
            go_upto_if 75 with fail
            go_cut [] from 62 to 130 (fun wx => Owns wx w.heap.size [⟨5, some ⟨b0, 0, none⟩, n1, d0, U8 (mapTo swapped (kindsOf sc) (k + 1))⟩, ⟨3, s1, n1, d1, NI (cellsOf sc)⟩, ⟨28, s2, n1, d2, U (asOf sc)⟩, ⟨28, s3, n1, d3, U (bsOf sc)⟩, ⟨29, s4, 2 * n0, d4, U32 (split x0)⟩, ⟨5, e0, 2 * k, g0, U8 (kindsOf (H k))⟩, ⟨3, e1, 2 * k, g1, NI (cellsOf (H k))⟩, ⟨29, e2, 2 * k, g2, U32 (asOf (H k))⟩, ⟨29, e3, 2 * k, g3, U32 (bsOf (H k))⟩] ∧ Below w.heap.size w wx)
            case first =>
              cases bb
              case true =>
                have hk3 : κ' = 3#8 := by rw [← HKS.out]; unfold swapped; exact if_pos (of_decide_eq_true HBO.out)
                obtain ⟨ho2, hb2⟩ := Owns.stored (p := []) HO0.out rfl k (.int .u8 3)
                have f0 := HO0.out.free 0 rfl k
                have HO : Hid (Owns (wc.setCell ⟨b0, k, none⟩ (.int .u8 3)) w.heap.size [⟨5, some ⟨b0, 0, none⟩, n1, d0, U8 (mapTo swapped (kindsOf sc) (k + 1))⟩, ⟨3, s1, n1, d1, NI (cellsOf sc)⟩, ⟨28, s2, n1, d2, U (asOf sc)⟩, ⟨28, s3, n1, d3, U (bsOf sc)⟩, ⟨29, s4, 2 * n0, d4, U32 (split x0)⟩, ⟨5, e0, 2 * k, g0, U8 (kindsOf (H k))⟩, ⟨3, e1, 2 * k, g1, NI (cellsOf (H k))⟩, ⟨29, e2, 2 * k, g2, U32 (asOf (H k))⟩, ⟨29, e3, 2 * k, g3, U32 (bsOf (H k))⟩]) := by
                  refine Lib.hid ?_
                  rw [← mapTo_set lK, HKK.out, HKS.out, ← U8_set, hk3]
                  exact ho2
                have HB := Lib.hid (HB0.out.trans hb2)
                clear ho2 hb2 hk3
                go_wp2_with fail
                go_meet
                exact ⟨HO.out, HB.out⟩
              case false =>
                have hk3 : κ' = κ := by rw [← HKS.out]; unfold swapped; exact if_neg (of_decide_eq_false HBO.out)
                have HO : Hid (Owns wc w.heap.size [⟨5, some ⟨b0, 0, none⟩, n1, d0, U8 (mapTo swapped (kindsOf sc) (k + 1))⟩, ⟨3, s1, n1, d1, NI (cellsOf sc)⟩, ⟨28, s2, n1, d2, U (asOf sc)⟩, ⟨28, s3, n1, d3, U (bsOf sc)⟩, ⟨29, s4, 2 * n0, d4, U32 (split x0)⟩, ⟨5, e0, 2 * k, g0, U8 (kindsOf (H k))⟩, ⟨3, e1, 2 * k, g1, NI (cellsOf (H k))⟩, ⟨29, e2, 2 * k, g2, U32 (asOf (H k))⟩, ⟨29, e3, 2 * k, g3, U32 (bsOf (H k))⟩]) := by
                  refine Lib.hid ?_
                  rw [mapTo_keep lK (by rw [HKK.out, HKS.out]; exact hk3)]
                  exact HO0.out
                clear hk3
                go_wp2_with fail
                go_meet
                exact ⟨HO.out, HB0.out⟩
            case rest =>
              clear q0
              obtain ⟨ho, hb⟩ := hcut
              have HO := Lib.hid ho; have HB := Lib.hid hb
              clear ho hb HO0 HB0 hsz
              obtain ⟨wv, rfl⟩ : ∃ v : World, v = wc := ⟨_, rfl⟩
              have hsv := HB.out.size
              obtain ⟨b1, rfl⟩ := HO.out.addr 1 rfl (k := k) (by simpa using ls)
              obtain ⟨b2, rfl⟩ := HO.out.addr 2 rfl (k := k) (by simpa using ls)
              obtain ⟨b3, rfl⟩ := HO.out.addr 3 rfl (k := k) (by simpa using ls)
              have r0 := HQ0.out wv HO.out
              clear HKS
              go_upto_region 16 with fail
              go_cut [14] from 62 to 130 (fun v wx => ∃ f0 j0, v = .slice f0 (2 * (k + 1)) j0 ∧ Owns wx w.heap.size [⟨5, some ⟨b0, 0, none⟩, n1, d0, U8 (mapTo swapped (kindsOf sc) (k + 1))⟩, ⟨3, some ⟨b1, 0, none⟩, n1, d1, NI (cellsOf sc)⟩, ⟨28, some ⟨b2, 0, none⟩, n1, d2, U (asOf sc)⟩, ⟨28, some ⟨b3, 0, none⟩, n1, d3, U (bsOf sc)⟩, ⟨29, s4, 2 * n0, d4, U32 (split x0)⟩, ⟨5, f0, 2 * (k + 1), j0, U8 (kindsOf (H (k + 1)))⟩, ⟨3, e1, 2 * k, g1, NI (cellsOf (H k))⟩, ⟨29, e2, 2 * k, g2, U32 (asOf (H k))⟩, ⟨29, e3, 2 * k, g3, U32 (bsOf (H k))⟩] ∧ Below w.heap.size w wx)
              case first =>
                go_region_law (refine step_append2 Try.underlying23 info5 rfl (by decide) [_, _, _, _, _] [_, _, _] (.tmp 79) (.tmp 88) wv.drew rfl wv.heap.size rfl rfl rfl rfl rfl HO.out.drew rfl rfl (by omega) (by omega) ?_; intro f0 j0 u1 ho1 hb1 hs1)
                all_goals (go_wp2_with fail; go_meet; exact ⟨_, _, rfl, by rw [HR.out.1]; exact ho1, HB.out.drew.trans hb1⟩)
              case rest =>
                obtain ⟨f0, j0, rfl, ho, hb⟩ := hcut
                have HO1 := Lib.hid ho; have HB1 := Lib.hid hb
                clear ho hb HO HB hsv r0
                obtain ⟨wv1, rfl⟩ : ∃ v : World, v = wc := ⟨_, rfl⟩
                have hsv := HB1.out.size
                have r1 := HO1.out.getI 1 rfl lC
                rw [HCC.out] at r1
                have m1 : IntKind.i64.wrap (2 * (c.cell : Int)) = 2 * (c.cell : Int) := by rw [IntKind.wrap_i64]; omega
                have m2 : IntKind.i64.wrap (2 * (c.cell : Int) + 1) = 2 * (c.cell : Int) + 1 := by rw [IntKind.wrap_i64]; omega
                go_upto_region 17 with fail
                go_cut [15] from 62 to 130 (fun v wx => ∃ f1 j1, v = .slice f1 (2 * (k + 1)) j1 ∧ Owns wx w.heap.size [⟨5, some ⟨b0, 0, none⟩, n1, d0, U8 (mapTo swapped (kindsOf sc) (k + 1))⟩, ⟨3, some ⟨b1, 0, none⟩, n1, d1, NI (cellsOf sc)⟩, ⟨28, some ⟨b2, 0, none⟩, n1, d2, U (asOf sc)⟩, ⟨28, some ⟨b3, 0, none⟩, n1, d3, U (bsOf sc)⟩, ⟨29, s4, 2 * n0, d4, U32 (split x0)⟩, ⟨5, f0, 2 * (k + 1), j0, U8 (kindsOf (H (k + 1)))⟩, ⟨3, f1, 2 * (k + 1), j1, NI (cellsOf (H (k + 1)))⟩, ⟨29, e2, 2 * k, g2, U32 (asOf (H k))⟩, ⟨29, e3, 2 * k, g3, U32 (bsOf (H k))⟩] ∧ Below w.heap.size w wx)
                case first =>
                  go_region_law (refine step_append2 Try.underlying24 info3 rfl (by decide) [_, _, _, _, _, _] [_, _] (.tmp 90) (.tmp 102) wv1.drew rfl wv1.heap.size rfl rfl rfl rfl rfl HO1.out.drew rfl rfl (by omega) (by omega) ?_; intro f1 j1 u1 ho1 hb1 hs1)
                  all_goals (go_wp2_with fail; go_meet; exact ⟨_, _, rfl, by rw [HR.out.2.1]; exact ho1, HB1.out.drew.trans hb1⟩)
                case rest =>
                  obtain ⟨f1, j1, rfl, ho, hb⟩ := hcut
                  have HO2 := Lib.hid ho; have HB2 := Lib.hid hb
                  clear ho hb HO1 HB1 hsv r1 m1 m2
                  obtain ⟨wv2, rfl⟩ : ∃ v : World, v = wc := ⟨_, rfl⟩
                  have hsv := HB2.out.size
                  have r2 := HO2.out.get64 2 rfl lA
                  rw [HAA.out] at r2
                  go_upto_region 18 with fail
                  go_cut [16] from 62 to 130 (fun v wx => ∃ f2 j2, v = .slice f2 (2 * (k + 1)) j2 ∧ Owns wx w.heap.size [⟨5, some ⟨b0, 0, none⟩, n1, d0, U8 (mapTo swapped (kindsOf sc) (k + 1))⟩, ⟨3, some ⟨b1, 0, none⟩, n1, d1, NI (cellsOf sc)⟩, ⟨28, some ⟨b2, 0, none⟩, n1, d2, U (asOf sc)⟩, ⟨28, some ⟨b3, 0, none⟩, n1, d3, U (bsOf sc)⟩, ⟨29, s4, 2 * n0, d4, U32 (split x0)⟩, ⟨5, f0, 2 * (k + 1), j0, U8 (kindsOf (H (k + 1)))⟩, ⟨3, f1, 2 * (k + 1), j1, NI (cellsOf (H (k + 1)))⟩, ⟨29, f2, 2 * (k + 1), j2, U32 (asOf (H (k + 1)))⟩, ⟨29, e3, 2 * k, g3, U32 (bsOf (H k))⟩] ∧ Below w.heap.size w wx)
                  case first =>
                    go_region_law (first
                      | (refine step_enter rfl (f := 5) (vs := #[.int .u64 (c.a.toNat : Int)]) ?_ (lowS c.a _) ?_; focus (go_simp; done))
                      | (refine step_enter rfl (f := 6) (vs := #[.int .u64 (c.a.toNat : Int)]) ?_ (highS c.a _) ?_; focus (go_simp; done))
                      | (refine step_append2 Try.underlying27 info32 rfl (by decide) [_, _, _, _, _, _, _] [_] (.tmp 104) (.tmp 115) wv2.drew rfl wv2.heap.size rfl rfl rfl rfl rfl HO2.out.drew rfl rfl (by omega) (by omega) ?_; intro f2 j2 u1 ho1 hb1 hs1))
                    all_goals (go_wp2_with fail; go_meet; exact ⟨_, _, rfl, by rw [HR.out.2.2.1]; exact ho1, HB2.out.drew.trans hb1⟩)
                  case rest =>
                    obtain ⟨f2, j2, rfl, ho, hb⟩ := hcut
                    have HO3 := Lib.hid ho; have HB3 := Lib.hid hb
                    clear ho hb HO2 HB2 hsv r2
                    obtain ⟨wv3, rfl⟩ : ∃ v : World, v = wc := ⟨_, rfl⟩
                    have hsv := HB3.out.size
                    have r3 := HO3.out.get64 3 rfl lB
                    rw [HBB.out] at r3
                    go_upto_region 19 with fail
                    go_region_law (first
                      | (refine step_enter rfl (f := 5) (vs := #[.int .u64 (c.b.toNat : Int)]) ?_ (lowS c.b _) ?_; focus (go_simp; done))
                      | (refine step_enter rfl (f := 6) (vs := #[.int .u64 (c.b.toNat : Int)]) ?_ (highS c.b _) ?_; focus (go_simp; done))
                      | (refine step_append2 Try.underlying27 info32 rfl (by decide) [_, _, _, _, _, _, _, _] [] (.tmp 117) (.tmp 128) wv3.drew rfl wv3.heap.size rfl rfl rfl rfl rfl HO3.out.drew rfl rfl (by omega) (by omega) ?_; intro f3 j3 u1 ho1 hb1 hs1))
                    all_goals
                      have HO4 : Hid (Owns u1 w.heap.size [⟨5, some ⟨b0, 0, none⟩, n1, d0, U8 (mapTo swapped (kindsOf sc) (k + 1))⟩, ⟨3, some ⟨b1, 0, none⟩, n1, d1, NI (cellsOf sc)⟩, ⟨28, some ⟨b2, 0, none⟩, n1, d2, U (asOf sc)⟩, ⟨28, some ⟨b3, 0, none⟩, n1, d3, U (bsOf sc)⟩, ⟨29, s4, 2 * n0, d4, U32 (split x0)⟩, ⟨5, f0, 2 * (k + 1), j0, U8 (kindsOf (H (k + 1)))⟩, ⟨3, f1, 2 * (k + 1), j1, NI (cellsOf (H (k + 1)))⟩, ⟨29, f2, 2 * (k + 1), j2, U32 (asOf (H (k + 1)))⟩, ⟨29, f3, 2 * (k + 1), j3, U32 (bsOf (H (k + 1)))⟩]) := by refine Lib.hid ?_; rw [HR.out.2.2.2]; exact ho1
                      have HB4 := Lib.hid (HB3.out.drew.trans hb1)
                      clear ho1 hb1 HO3 HB3 r3 HR
                      go_wp2
                      go_roundw
                      case rel =>
                        exact ⟨k + 1, f0, f1, f2, f3, j0, j1, j2, j3, by omega, by go_num, rfl, rfl, rfl, rfl, HO4.out, HB4.out⟩
                      case measure => simp [intOf] <;> omega
        · have hkn : n1 = k := by omega
          subst hkn
          obtain ⟨t, ht⟩ : ∃ t, sc.map swapCall = t := ⟨_, rfl⟩
          have HTL : Hid (t.length = n1) := by refine Lib.hid ?_; rw [← ht, List.length_map, HL.out]
          have HTC : Hid (∀ c ∈ t, c.cell < n0) := by
            refine Lib.hid fun c h => ?_
            rw [← ht] at h
            obtain ⟨d, hd, rfl⟩ := List.mem_map.1 h
            exact HC.out d hd
          have HTK : Hid (∀ c ∈ t, ¬ c.kind = 2#8 ∧ ¬ c.kind = 4#8) := by
            refine Lib.hid fun c h => ?_
            rw [← ht] at h
            obtain ⟨d, hd, rfl⟩ := List.mem_map.1 h
            exact swapped_not d.kind
          have O6 : Hid (Owns wr w.heap.size [⟨5, s0, n1, d0, U8 (kindsOf t)⟩, ⟨3, s1, n1, d1, NI (cellsOf t)⟩, ⟨28, s2, n1, d2, U (asOf t)⟩, ⟨28, s3, n1, d3, U (bsOf t)⟩, ⟨29, s4, 2 * n0, d4, U32 (split x0)⟩, ⟨5, e0, 2 * n1, g0, U8 (kindsOf (halved t))⟩, ⟨3, e1, 2 * n1, g1, NI (cellsOf (halved t))⟩, ⟨29, e2, 2 * n1, g2, U32 (asOf (halved t))⟩, ⟨29, e3, 2 * n1, g3, U32 (bsOf (halved t))⟩]) := by
            refine Lib.hid ?_
            have h1 : H n1 = halved t := by
              rw [← HHH.out, ← ht]
              show halved ((sc.map swapCall).take n1) = _
              rw [List.take_of_length_le (by rw [List.length_map, HL.out]; exact Nat.le_refl _)]
            have h2 : mapTo swapped (kindsOf sc) n1 = kindsOf t := by
              rw [mapTo_all (by rw [kindsOf_length, HL.out]; exact Nat.le_refl _), ← ht]
              simp [kindsOf, swapCall]
            have h3 : cellsOf sc = cellsOf t := by rw [← ht]; simp [cellsOf, swapCall]
            have h4 : asOf sc = asOf t := by rw [← ht]; simp [asOf, swapCall]
            have h5 : bsOf sc = bsOf t := by rw [← ht]; simp [bsOf, swapCall]
            rw [h1, h2, h3, h4, h5] at ho
            exact ho
          have B6 := Lib.hid hb
          have hz6 : w.heap.size ≤ wr.heap.size := hsz
          clear ho hb ht hlt HHH HHS HH0
          go_wp2_with fail
          refine (copied_any a0 c0 n0 x0 wr (K0.out.1.mono B6.out (Nat.le_refl _)) K0.out.2.1 K0.out.2.2.2 (by omega)).mono ?_
          rintro e w7 ⟨s5, d5, rfl, ho, hb⟩
          have O7 := Lib.hid (O6.out.more hb ho hz6); have B7 := Lib.hid (Below.more B6.out hb hz6)
          have hz7 : w.heap.size ≤ w7.heap.size := B7.out.size
          clear ho hb O6 B6 hz6
          go_wp2_with fail
          refine (run64_any w7 s5 s0 s1 s2 s3 d5 d0 d1 d2 d3 n0 n1 x0 t K0.out.2.1 HTL.out (O7.out.rdAt 9 rfl) (O7.out.rdAt 0 rfl) (O7.out.rdAt 1 rfl) (O7.out.rdAt 2 rfl) (O7.out.rdAt 3 rfl) (by omega) (by omega) HTC.out).mono ?_
          rintro e w8 ⟨s6, d6, s7, d7, rfl, ho, hb⟩
          have O8 := Lib.hid (O7.out.more hb ho hz7); have B8 := Lib.hid (Below.more B7.out hb hz7)
          have hz8 : w.heap.size ≤ w8.heap.size := B8.out.size
          clear ho hb O7 B7 hz7
          have hnil := Lib.hid (O8.out.cap 4 rfl).2.2
          have HHC : Hid (∀ c ∈ halved t, c.cell < 2 * n0) := by
            refine Lib.hid fun c h => ?_
            obtain ⟨d, hd, h1⟩ := List.mem_flatMap.1 h
            have h2 := HTC.out d hd
            simp only [List.mem_cons, List.not_mem_nil, or_false] at h1
            rcases h1 with rfl | rfl
            · show 2 * d.cell < _; omega
            · show 2 * d.cell + 1 < _; omega
          go_wp2_with fail
          refine (run32_any w8 s4 e0 e1 e2 e3 d4 g0 g1 g2 g3 (2 * n0) (2 * n1) (split x0) (halved t) (by rw [split_length, K0.out.2.1]) (by rw [halved_length, HTL.out]) (fun h => (hnil.out h).2) (O8.out.rdAt 4 rfl) (O8.out.rdAt 5 rfl) (O8.out.rdAt 6 rfl) (O8.out.rdAt 7 rfl) (O8.out.rdAt 8 rfl) (by omega) (by omega) HHC.out).mono ?_
          rintro e w9 ⟨s8, d8, s9, d9, rfl, ho, hb⟩
          have O9 := Lib.hid (O8.out.more hb ho hz8); have B9 := Lib.hid (Below.more B8.out hb hz8)
          have hz9 : w.heap.size ≤ w9.heap.size := B9.out.size
          clear ho hb O8 B8 hz8
          rw [halves_run t x0 HTK.out] at O9
          obtain ⟨A, hA⟩ : ∃ A, (runL x0 t).1 = A := ⟨_, rfl⟩
          obtain ⟨Z, hZ⟩ : ∃ Z, (runL x0 t).2 = Z := ⟨_, rfl⟩
          have HAL : Hid (A.length = n1) := by refine Lib.hid ?_; rw [← hA, runL_fst_length, HTL.out]
          have HZL : Hid (Z.length = n0) := by refine Lib.hid ?_; rw [← hZ, runL_snd_length, K0.out.2.1]
          have OE : Hid (Owns w9 w.heap.size [⟨28, s6, n1, d6, U A⟩, ⟨28, s7, n0, d7, U Z⟩, ⟨29, s8, 2 * n1, d8, U32 (split A)⟩, ⟨29, s9, 2 * n0, d9, U32 (split Z)⟩]) := by
            refine Lib.hid ?_
            have h1 := O9.out
            simp only [hA, hZ] at h1
            exact h1.drop (by show List.Sublist [_, _, _, _] [_, _, _, _, _, _, _, _, _, _, _, _, _, _]; exact .cons _ (.cons _ (.cons _ (.cons _ (.cons _ (.cons _ (.cons _ (.cons _ (.cons _ (.cons _ (.refl _)))))))))))
          clear hA hZ O9 HTL HTC HTK HHC hnil HL HC HSC hz9
          have m1 : IntKind.i64.wrap (2 * (n1 : Int)) = 2 * (n1 : Int) := by rw [IntKind.wrap_i64]; omega
          have m0 : IntKind.i64.wrap (2 * (n0 : Int)) = 2 * (n0 : Int) := by rw [IntKind.wrap_i64]; omega
          have t3 : ((2 * (n1 : Int)) != 2 * (n1 : Int)) = false := by simp
          have t4 : ((2 * (n0 : Int)) != 2 * (n0 : Int)) = false := by simp
          go_wp2
          go_loopw [180] (fun i wr => ∃ (k : Nat), k ≤ n1 ∧ i = .int .i64 k ∧ Owns wr w.heap.size [⟨28, s6, n1, d6, U A⟩, ⟨28, s7, n0, d7, U Z⟩, ⟨29, s8, 2 * n1, d8, U32 (split A)⟩, ⟨29, s9, 2 * n0, d9, U32 (split Z)⟩] ∧ Below w.heap.size w wr) (fun i _ => n1 - (intOf i).toNat)
          case atStart => exact ⟨0, Nat.zero_le _, rfl, OE.out, B9.out⟩
          case round =>
            clear OE B9 m1 m0 t3 t4
            obtain ⟨k, hk, rfl, ho, hb⟩ := hrel
            have HO := Lib.hid ho; have HB := Lib.hid hb
            clear ho hb
            by_cases hlt : k < n1
            · have lA : k < A.length := by rw [HAL.out]; exact hlt
              obtain ⟨b6, rfl⟩ := HO.out.addr 0 rfl (k := k) (by simpa using lA)
              obtain ⟨b8, rfl⟩ := HO.out.addr 2 rfl (k := k) (by simp [split_length]; omega)
              have q6 := HO.out.get64 0 rfl lA
              have qL := HO.out.getLow 2 rfl lA
              have qH := HO.out.getHigh 2 rfl lA
              obtain ⟨x, hx⟩ : ∃ x, A[k] = x := ⟨_, rfl⟩
              rw [hx] at q6 qL qH
              clear hx
              have m1 : IntKind.i64.wrap (2 * (k : Int)) = 2 * (k : Int) := by rw [IntKind.wrap_i64]; omega
              have m2 : IntKind.i64.wrap (2 * (k : Int) + 1) = 2 * (k : Int) + 1 := by rw [IntKind.wrap_i64]; omega
              have i1 : (2 * (k : Int)).toNat = 2 * k := by omega
              have i2 : (2 * (k : Int) + 1).toNat = 2 * k + 1 := by omega
              have t5 : (((lo x).toNat : Int) != ((lo x).toNat : Int)) = false := by simp
              have t6 : (((hi x).toNat : Int) != ((hi x).toNat : Int)) = false := by simp
              go_wp2
              go_quiet ((first | (go_at_call 5; exact Calls.quiet_of_same (lowHalf_any x _)) | (go_at_call 6; exact Calls.quiet_of_same (highHalf_any x _))))
              go_wp2
              go_roundw
              case rel => exact ⟨k + 1, by omega, by go_num, HO.out.drewN _, below_drewN HB.out _⟩
              case measure => simp [intOf] <;> omega
            · have hkn : n1 = k := by omega
              subst hkn
              go_wp2
              go_loopw [207] (fun i wr => ∃ (k : Nat), k ≤ n0 ∧ i = .int .i64 k ∧ Owns wr w.heap.size [⟨28, s6, n1, d6, U A⟩, ⟨28, s7, n0, d7, U Z⟩, ⟨29, s8, 2 * n1, d8, U32 (split A)⟩, ⟨29, s9, 2 * n0, d9, U32 (split Z)⟩] ∧ Below w.heap.size w wr) (fun i _ => n0 - (intOf i).toNat)
              case atStart => exact ⟨0, Nat.zero_le _, rfl, HO.out, HB.out⟩
              case round =>
                clear HO HB
                obtain ⟨k, hk, rfl, ho, hb⟩ := hrel
                have HO := Lib.hid ho; have HB := Lib.hid hb
                clear ho hb
                by_cases hlt : k < n0
                · have lZ : k < Z.length := by rw [HZL.out]; exact hlt
                  obtain ⟨b7, rfl⟩ := HO.out.addr 1 rfl (k := k) (by simpa using lZ)
                  obtain ⟨b9, rfl⟩ := HO.out.addr 3 rfl (k := k) (by simp [split_length]; omega)
                  have q7 := HO.out.get64 1 rfl lZ
                  have qL := HO.out.getLow 3 rfl lZ
                  have qH := HO.out.getHigh 3 rfl lZ
                  obtain ⟨x, hx⟩ : ∃ x, Z[k] = x := ⟨_, rfl⟩
                  rw [hx] at q7 qL qH
                  clear hx
                  have m1 : IntKind.i64.wrap (2 * (k : Int)) = 2 * (k : Int) := by rw [IntKind.wrap_i64]; omega
                  have m2 : IntKind.i64.wrap (2 * (k : Int) + 1) = 2 * (k : Int) + 1 := by rw [IntKind.wrap_i64]; omega
                  have i1 : (2 * (k : Int)).toNat = 2 * k := by omega
                  have i2 : (2 * (k : Int) + 1).toNat = 2 * k + 1 := by omega
                  have t5 : (((lo x).toNat : Int) != ((lo x).toNat : Int)) = false := by simp
                  have t6 : (((hi x).toNat : Int) != ((hi x).toNat : Int)) = false := by simp
                  go_wp2
                  go_quiet ((first | (go_at_call 5; exact Calls.quiet_of_same (lowHalf_any x _)) | (go_at_call 6; exact Calls.quiet_of_same (highHalf_any x _))))
                  go_wp2
                  go_roundw
                  case rel => exact ⟨k + 1, by omega, by go_num, HO.out.drewN _, below_drewN HB.out _⟩
                  case measure => simp [intOf] <;> omega
                · go_wp2
                  go_ret
                  exact ⟨rfl, HB.out⟩
end Go.Proofs.Ytjciefonlhhoaaa
