/-
  The contracts of sameInts, oHas and oValues.
-/
import Derived.Test.YtjjmjjbeecmmladLaid
namespace Go.Proofs.Ytjjmjjbeecmmlad
set_option linter.unusedVariables false
set_option linter.unusedSimpArgs false
open Go.RowKit

set_option maxHeartbeats 400000 in
theorem sameInts_any (a b : Option Addr) (ca cb : Nat) (n m : Nat) (xs ys : List Nat) (w : World) (hx : Rd w a (NI xs)) (hy : Rd w b (NI ys))
    (hn : xs.length = n) (hm : ys.length = m) (bn : n ≤ 17592186043904) (bm : m ≤ 17592186043904) (r : Bool) (hr : r = decide (xs = ys)) :
    Calls Try.prog 16 #[.slice a n ca, .slice b m cb] w fun e w' => e = .returned (.bool r) ∧ Below w.heap.size w w' := by
  have HR := Lib.hid hr; clear hr
  have HN := Lib.hid hn; have HM := Lib.hid hm; clear hn hm
  by_cases hnm : n = m
  · obtain rfl := hnm
    have t0 : ((n : Int) != (n : Int)) = false := by simp
    go_enter Try.func16, Try.ntmps16
    go_wp2
    go_loopw [13] (fun i wr => ∃ k : Nat, k ≤ n ∧ i = .int .i64 k ∧ xs.take k = ys.take k ∧ Below w.heap.size w wr) (fun i _ => n - (intOf i).toNat)
    case atStart => exact ⟨0, Nat.zero_le _, rfl, rfl, Below.refl _ _⟩
    case round =>
      obtain ⟨k, hk, rfl, htk, hb⟩ := hrel
      have HB := Lib.hid hb; have HT := Lib.hid htk
      clear htk
      by_cases hlt : k < n
      · have lx : k < xs.length := by rw [HN.out]; exact hlt
        have ly : k < ys.length := by rw [HM.out]; exact hlt
        obtain ⟨b1, o1, rfl, c1⟩ := at_int hx hb (Nat.le_refl _) lx
        obtain ⟨b2, o2, rfl, c2⟩ := at_int hy hb (Nat.le_refl _) ly
        clear hb hx hy
        by_cases he : xs[k] = ys[k]
        · have t1 : ((xs[k] : Int) != (ys[k] : Int)) = false := by rw [he]; simp
          have HE := Lib.hid he; clear he
          go_wp2
          go_quiet (fail)
          go_wp2
          go_roundw
          case rel => exact ⟨k + 1, by omega, by go_num, by rw [List.take_succ_eq_append_getElem lx, List.take_succ_eq_append_getElem ly, HT.out, HE.out], below_drewN HB.out _⟩
          case measure => simp [intOf]; omega
        · have t1 : ((xs[k] : Int) != (ys[k] : Int)) = true := by
            simp only [bne_iff_ne, ne_eq, Int.natCast_inj]
            exact he
          have HE := Lib.hid he; clear he
          go_wp2
          go_quiet (fail)
          go_wp2
          go_ret
          exact ⟨ret_bool (a := false) (by rw [HR.out]; symm; simp only [decide_eq_false_iff_not]; rintro rfl; exact HE.out rfl), below_drewN HB.out _⟩
      · clear hb
        go_wp2
        go_ret
        exact ⟨ret_bool (a := true) (by
          rw [HR.out]; symm; simp only [decide_eq_true_eq]
          have := HT.out
          rwa [List.take_of_length_le (by rw [HN.out]; omega), List.take_of_length_le (by rw [HM.out]; omega)] at this), HB.out⟩
  · have t0 : ((n : Int) != (m : Int)) = true := by simp; omega
    go_enter Try.func16, Try.ntmps16
    go_wp2
    go_ret
    exact ⟨ret_bool (a := false) (by rw [HR.out]; symm; simp only [decide_eq_false_iff_not]; rintro rfl; exact hnm (HN.out.symm.trans HM.out)), Below.refl _ _⟩

theorem oHas_any (a : Option Addr) (ca n x : Nat) (xs : List Nat) (w : World) (hx : Rd w a (NI xs)) (hn : xs.length = n) (bn : n ≤ 17592186043904) (r : Bool) (hr : r = decide (x ∈ xs)) :
    Calls Try.prog 14 #[.slice a n ca, .int .i64 (x : Int)] w fun e w' => e = .returned (.bool r) ∧ w' = w := by
  have HR := Lib.hid hr; have HN := Lib.hid hn
  clear hr hn
  go_enter Try.func14, Try.ntmps14
  go_wp2
  go_loopw [9] (fun i wr => ∃ k : Nat, k ≤ n ∧ i = .int .i64 k ∧ ¬ x ∈ xs.take k ∧ wr = w) (fun i _ => n - (intOf i).toNat)
  case atStart => exact ⟨0, Nat.zero_le _, rfl, by simp, rfl⟩
  case round =>
    obtain ⟨k, hk, rfl, htk, rfl⟩ := hrel
    have HT := Lib.hid htk
    clear htk
    by_cases hlt : k < n
    · have lx : k < xs.length := by rw [HN.out]; exact hlt
      obtain ⟨b1, o1, rfl, c1⟩ := at_int hx (Below.refl _ _) (Nat.le_refl _) lx
      obtain ⟨y, hy⟩ : ∃ y, xs[k] = y := ⟨_, rfl⟩
      rw [hy] at c1
      have HY := Lib.hid hy
      clear hx hy
      by_cases he : y = x
      · subst he
        have t1 : ((y : Int) == (y : Int)) = true := by simp
        go_wp2
        go_ret
        exact ⟨ret_bool (a := true) (by rw [HR.out]; symm; rw [decide_eq_true_eq, ← HY.out]; exact List.getElem_mem _), rfl⟩
      · have t1 : ((y : Int) == (x : Int)) = false := by rw [beq_eq_false_iff_ne]; omega
        go_wp2
        go_roundw
        case rel =>
          refine ⟨k + 1, by omega, by go_num, ?_, by first | rfl | trivial⟩
          rw [List.take_succ_eq_append_getElem lx, HY.out]
          simp only [List.mem_append, List.mem_singleton]
          rintro (h | h)
          · exact HT.out h
          · exact he h.symm
        case measure => simp [intOf]; omega
    · go_wp2
      go_ret
      exact ⟨ret_bool (a := false) (by
        rw [HR.out]; symm; rw [decide_eq_false_iff_not]
        have := HT.out
        rwa [List.take_of_length_le (by rw [HN.out]; omega)] at this), rfl⟩

set_option maxHeartbeats 800000 in
theorem oValues_any (w : World) (a0 a1 : Option Addr) (n c0 c1 : Nat) (ps : Nat → List Nat) (ownL : List (BitVec 64)) (VS : List (BitVec 64)) (hn : n ≤ 1048576) (hlo : ownL.length = n) (hro : Rd w a1 (U ownL)) (less : ∀ i, ∀ p ∈ ps i, p < i)
    (par : ∀ i, i < n → ∃ b o pa pc, a0 = some ⟨b, o, none⟩ ∧ b < w.heap.size ∧ w.cell? ⟨b, o + i, none⟩ = some (.slice pa (ps i).length pc) ∧ Rd w pa (NI (ps i)) ∧ (ps i).length ≤ 1048576)
    (hvs : (List.range n).map (val ps fun i => ownL.getD i 0) = VS) :
    Calls Try.prog 15 #[.slice a0 n c0, .slice a1 n c1] w (One w 25 n (U VS)) := by
  have HVL : Hid (VS.length = n) := by show _ = _; rw [← hvs]; simp
  have HVG : Hid (∀ i (h : i < VS.length), VS[i] = val ps (fun i => ownL.getD i 0) i) := by refine Lib.hid ?_; subst hvs; intro i h; simp
  have HVE : Hid (∀ i (h : i < ownL.length), (ps i).foldl (fun s p => s + val ps (fun i => ownL.getD i 0) p) ownL[i] = val ps (fun i => ownL.getD i 0) i) := by
    refine Lib.hid fun i h => ?_
    rw [val_eq less i]
    simp [h]
  obtain ⟨V, hV⟩ : ∃ V, val ps (fun i => ownL.getD i 0) = V := ⟨_, rfl⟩
  rw [hV] at HVG HVE
  clear hV
  have HLO := Lib.hid hlo; have HRO := Lib.hid hro; have HPA := Lib.hid par; have HLE := Lib.hid less
  clear hlo hro par less hvs
  have hp := Lib.hid ((Owns.nil w w.heap.size).made (Nat.le_refl _) 25 #[] (by simp))
  have hbp := Lib.hid ((Below.refl w.heap.size w).alloc (Nat.le_refl _) (.cells #[] 25))
  go_enter Try.func15, Try.ntmps15
  go_wp2
  go_loopw [13, 5] (fun i v wr => ∃ (k : Nat) (e0 : Option Addr) (g0 : Nat), k ≤ n ∧ i = .int .i64 k ∧ v = .slice e0 k g0 ∧ Owns wr w.heap.size [⟨25, e0, k, g0, U (VS.take k)⟩] ∧ Below w.heap.size w wr) (fun i _ _ => n - (intOf i).toNat)
  case atStart => exact ⟨0, _, _, Nat.zero_le _, rfl, rfl, by simpa using hp.out, hbp.out⟩
  case round =>
    clear hp hbp
    obtain ⟨k, e0, g0, hk, rfl, rfl, ho, hb⟩ := hrel
    have hsz := hb.size
    by_cases hlt : k < n
    · have lo : k < ownL.length := by rw [HLO.out]; exact hlt
      have lv : k < VS.length := by rw [HVL.out]; exact hlt
      obtain ⟨b1, o1, rfl, q1⟩ := at_u64 HRO.out hb (Nat.le_refl _) lo
      obtain ⟨b0, o0, pa, pc, rfl, hb0, q0, rp, bpl⟩ := HPA.out k hlt
      rw [← hb.cell (by exact hb0)] at q0
      have HVK := Lib.hid (HVE.out k lo)
      have HTV : Hid (U (VS.take (k + 1)) = U (VS.take k) ++ [.int .u64 ((V k).toNat : Int)]) := by
        refine Lib.hid ?_
        rw [List.take_succ_eq_append_getElem lv, U_snoc, HVG.out]
      have HPL := Lib.hid (HLE.out k)
      obtain ⟨x, hx⟩ : ∃ x, ownL[k] = x := ⟨_, rfl⟩
      rw [hx] at HVK q1
      obtain ⟨P, hP⟩ : ∃ P, ps k = P := ⟨_, rfl⟩
      rw [hP] at q0 rp bpl HVK HPL
      obtain ⟨pl, hpl⟩ : ∃ pl, P.length = pl := ⟨_, rfl⟩
      rw [hpl] at q0 bpl
      have HLP := Lib.hid hpl; have HRP := Lib.hid rp
      have HO := Lib.hid ho; have HB := Lib.hid hb
      clear hx hP hpl rp ho hb
      obtain ⟨w1, rfl⟩ : ∃ w1 : World, w1 = wr := ⟨_, rfl⟩
      go_wp2
      go_loopw [23, 7] (fun i v wr => ∃ j : Nat, j ≤ pl ∧ i = .int .i64 j ∧ v = .int .u64 (((P.take j).foldl (fun s p => s + V p) x).toNat : Int) ∧ wr = w1) (fun i _ _ => pl - (intOf i).toNat)
      case atStart => exact ⟨0, Nat.zero_le _, rfl, rfl, rfl⟩
      case round =>
        obtain ⟨j, hj, rfl, rfl, rfl⟩ := hrel
        by_cases hjl : j < pl
        · have lp : j < P.length := by rw [HLP.out]; exact hjl
          obtain ⟨b2, o2, rfl, q2⟩ := at_int HRP.out HB.out (Nat.le_refl _) lp
          obtain ⟨p, hp⟩ : ∃ p, P[j] = p := ⟨_, rfl⟩
          rw [hp] at q2
          have hpk : p < k := by rw [← hp]; exact HPL.out _ (List.getElem_mem _)
          have lt : p < (VS.take k).length := by simp; omega
          obtain ⟨b3, rfl⟩ := HO.out.addr 0 rfl (k := p) (by simpa using lt)
          have q3 := HO.out.get64 0 rfl lt
          have e3 : (VS.take k)[p] = V p := by rw [List.getElem_take, HVG.out]
          rw [e3] at q3
          have HS : Hid ((P.take (j + 1)).foldl (fun s p => s + V p) x = (P.take j).foldl (fun s p => s + V p) x + V p) := by
            refine Lib.hid ?_
            rw [List.take_succ_eq_append_getElem lp, List.foldl_append, hp]
            rfl
          obtain ⟨y, hy⟩ : ∃ y, (P.take j).foldl (fun s p => s + V p) x = y := ⟨_, rfl⟩
          rw [hy] at HS ⊢
          obtain ⟨z, hz⟩ : ∃ z, V p = z := ⟨_, rfl⟩
          rw [hz] at HS q3
          have hwr := u64_add y z
          rw [IntKind.wrap_u64] at hwr
          clear hp lt e3 hy hz
          go_wp2
          go_roundw
          case rel => exact ⟨j + 1, by omega, by go_num, by rw [HS.out]; first | rfl | rw [hwr] | rw [u64_add], by first | rfl | trivial⟩
          case measure => simp [intOf]; omega
        · rw [List.take_of_length_le (by rw [HLP.out]; omega), HVK.out]
          clear q0 q1
          go_wp2_with (at_builtin; refine app30s [] [] (.tmp 34) (.tmp 36) rfl rfl wr.heap.size rfl rfl rfl HO.out rfl (by omega) (by omega) ?_)
          intro e1 g1 w2 ho1 hb1 hs1
          have HR1 : Hid (Owns w2 w.heap.size [⟨25, e1, k + 1, g1, U (VS.take (k + 1))⟩]) := by refine Lib.hid ?_; rw [HTV.out]; exact ho1
          have HT1 := Lib.hid (HB.out.trans hb1)
          clear ho1 hb1 HO HB
          go_wp2
          go_roundw
          case rel => exact ⟨k + 1, e1, g1, by omega, by go_num, rfl, HR1.out, HT1.out⟩
          case measure => simp [intOf]; omega
    · have hkn : n = k := by omega
      subst hkn
      rw [List.take_of_length_le (by rw [HVL.out]; omega)] at ho
      have HO := Lib.hid ho; have HB := Lib.hid hb
      clear ho hb
      go_wp2
      go_ret
      exact ⟨e0, g0, rfl, HO.out, HB.out⟩
end Go.Proofs.Ytjjmjjbeecmmlad
