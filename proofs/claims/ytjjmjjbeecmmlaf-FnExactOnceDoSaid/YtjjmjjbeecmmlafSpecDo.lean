/-
  The contract of spec.OnceDo.
-/
import Derived.Test.YtjjmjjbeecmmlafExactFns
namespace Go.Proofs.Ytjjmjjbeecmmlaf
set_option linter.unusedVariables false
set_option linter.unusedSimpArgs false
open Go.RowKit

theorem doAt_groups {G : List Nat} {X : List (BitVec 64)} {x : Nat} : ∀ k, x ∈ (doAt G X k).1.map (G.getD · 0) ↔ x ∈ (List.range k).map (G.getD · 0) := by
  intro k
  induction k with
  | zero => simp [doAt]
  | succ k ih =>
    rw [doAt_succ, List.range_succ, List.map_append, List.mem_append]
    unfold doStep
    have h1 : x ∈ [k].map (G.getD · 0) ↔ x = G.getD k 0 := by simp only [List.map_cons, List.map_nil, List.mem_singleton]
    rw [h1]
    split
    · rename_i hm
      rw [ih]
      constructor
      · exact .inl
      · rintro (h | h)
        · exact h
        · exact ih.1 (by rw [h]; exact hm)
    · rw [List.map_append, List.mem_append, ih, h1]
theorem range_first {G : List Nat} {k i : Nat} : decide (¬ G.getD i 0 ∈ (List.range (k + 1)).map (G.getD · 0)) = (decide (¬ G.getD i 0 ∈ (List.range k).map (G.getD · 0)) && decide (G.getD k 0 ≠ G.getD i 0)) := by
  rw [List.range_succ, List.map_append, Bool.eq_iff_iff]
  simp only [Bool.and_eq_true, decide_eq_true_eq, List.mem_append, List.map_cons, List.map_nil, List.mem_singleton]
  constructor
  · intro h1; exact ⟨fun h2 => h1 (.inl h2), fun h2 => h1 (.inr h2.symm)⟩
  · rintro ⟨h1, h2⟩ h3
    rcases h3 with h3 | h3
    · exact h1 h3
    · exact h2 h3.symm

set_option maxHeartbeats 6400000 in
set_option maxRecDepth 100000 in
theorem specDo_any (w : World) (a0 a1 : Option Addr) (n0 n1 c0 c1 n : Nat) (gs : List (BitVec 8)) (X : List (BitVec 64)) (hlg : gs.length = n0) (hrg : Rd w a0 (I8 gs)) (hlx : X.length = n1) (hrx : Rd w a1 (U X)) (bn0 : n0 ≤ 1048576) (bn : n1 ≤ 1048576) (hmin : (n1 < n0 ∧ n = n1) ∨ (¬ n1 < n0 ∧ n = n0))
    (G : List Nat) (hG : places gs = G) (seen : List (BitVec 64)) (hseen : seenDo G X n = seen) (ran : List Nat) (hran : (doAt G X n).1 = ran) :
    Calls Try.prog 8 #[.slice a0 n0 c0, .slice a1 n1 c1] w (Done w n seen ran) := by
  have hnn : n ≤ n0 ∧ n ≤ n1 := by omega
  obtain ⟨T, hT⟩ : ∃ T, doAt G X = T := ⟨_, rfl⟩
  have HT0 : Hid (T 0 = ([], 0)) := by show _ = _; rw [← hT]; rfl
  have HTS : Hid (∀ k, T (k + 1) = doStep G X (T k) k) := by refine Lib.hid fun k => ?_; rw [← hT]; exact doAt_succ
  have HTL : Hid (∀ k, (T k).1.length ≤ k) := by refine Lib.hid fun k => ?_; rw [← hT]; exact doAt_short k
  have HTG : Hid (∀ k x, x ∈ (T k).1.map (G.getD · 0) ↔ x ∈ (List.range k).map (G.getD · 0)) := by refine Lib.hid fun k x => ?_; rw [← hT]; exact doAt_groups k
  have HSL : Hid (seen.length = n) := by show _ = _; rw [← hseen]; simp [seenDo]
  have HSG : Hid (∀ k (h : k < seen.length), seen[k] = (T (k + 1)).2) := by refine Lib.hid ?_; subst hseen; intro k h; rw [← hT]; simp [seenDo]
  have HPG : Hid (∀ i (h : i < gs.length), (G.getD i 0 : Int) = gs[i].toInt + 128) := by refine Lib.hid fun i h => ?_; rw [← hG]; exact (places_get h).1
  rw [hT] at hran
  have HRAN := Lib.hid hran
  have HRG := Lib.hid hrg; have HRX := Lib.hid hrx
  have hgl : n ≤ gs.length := by omega
  have hxl : n ≤ X.length := by omega
  have O0 := Lib.hid (((Owns.nil w w.heap.size).made (Nat.le_refl _) 36 #[] (by simp)).made (by simp) 3 #[] (by simp))
  have B0 := Lib.hid (((Below.refl w.heap.size w).alloc (Nat.le_refl _) (.cells #[] 36)).alloc (by simp) (.cells #[] 3))
  clear hlg hrg hlx hrx hT hseen hran hG
  have tmin : (min (n0 : Int) (n1 : Int)) = (n : Int) := by omega
  rcases hmin with ⟨hlt0, hnn1⟩ | ⟨hlt0, hnn1⟩
  · have hlt : (n1 : Int) < (n0 : Int) := by omega
    obtain rfl := hnn1
    go_enter Try.func8, Try.ntmps8
    go_wp2
    go_loopw [19, 6, 7, 8] (fun i u v x wr => ∃ (k : Nat) (e0 f0 : Option Addr) (g0 h0 : Nat), k ≤ n ∧ i = .int .i64 k ∧ u = .slice e0 k g0 ∧ v = .slice f0 (T k).1.length h0 ∧ x = .int .u64 ((T k).2.toNat : Int) ∧ Owns wr w.heap.size [⟨36, e0, k, g0, U (seen.take k)⟩, ⟨3, f0, (T k).1.length, h0, NI (T k).1⟩] ∧ Below w.heap.size w wr) (fun i _ _ _ _ => n - (intOf i).toNat)
    case atStart =>
      refine ⟨0, _, _, _, _, Nat.zero_le _, rfl, rfl, by rw [HT0.out]; rfl, by rw [HT0.out]; rfl, ?_, B0.out⟩
      rw [HT0.out]
      have h := O0.out
      rw [World.size_alloc] at h
      exact h
    case round =>
      clear O0 B0
      obtain ⟨i, e0, f0, g0, h0, hi, rfl, rfl, rfl, rfl, ho, hb⟩ := hrel
      have hsz := hb.size
      have hdl := HTL.out i
      by_cases hlt2 : i < n
      · have li0 : i < gs.length := by omega
        have li1 : i < X.length := by omega
        have lis : i < seen.length := by rw [HSL.out]; exact hlt2
        obtain ⟨L, hL⟩ : ∃ L, (T i).1.length = L := ⟨_, rfl⟩
        rw [hL] at ho hdl ⊢
        have HLL := Lib.hid hL
        have HO := Lib.hid ho; have HB := Lib.hid hb
        clear ho hb hL
        go_wp2
        go_loopw [23, 10] (fun p f wr => ∃ (j : Nat), j ≤ i ∧ p = .int .i64 j ∧ f = .bool (decide (¬ G.getD i 0 ∈ (List.range j).map (G.getD · 0))) ∧ Owns wr w.heap.size [⟨36, e0, i, g0, U (seen.take i)⟩, ⟨3, f0, L, h0, NI (T i).1⟩] ∧ Below w.heap.size w wr) (fun p _ _ => i - (intOf p).toNat)
        case atStart => exact ⟨0, Nat.zero_le _, rfl, by simp, HO.out, HB.out⟩
        case round =>
          clear HO HB
          obtain ⟨k, hj, rfl, rfl, ho, hb⟩ := hrel
          have hsz := hb.size
          by_cases hlj : k < i
          · have lk0 : k < gs.length := by omega
            have HF := Lib.hid (range_first (G := G) (i := i) (k := k))
            obtain ⟨ba, oa, hea, qa⟩ := at_i8 HRG.out hb (Nat.le_refl _) li0
            obtain ⟨bb, ob, heb, qb⟩ := at_i8 HRG.out hb (Nat.le_refl _) lk0
            have hab := hea.symm.trans heb
            simp only [Option.some.injEq, Addr.mk.injEq, and_true] at hab
            obtain ⟨rfl, rfl⟩ := hab
            subst hea
            clear heb
            have pi := HPG.out i li0
            have pk := HPG.out k lk0
            have tne : (gs[k].toInt != gs[i].toInt) = decide (G.getD k 0 ≠ G.getD i 0) := by
              rw [Bool.eq_iff_iff]
              simp only [bne_iff_ne, ne_eq, decide_eq_true_eq]
              omega
            obtain ⟨f, hf⟩ : ∃ f, decide (¬ G.getD i 0 ∈ (List.range k).map (G.getD · 0)) = f := ⟨_, rfl⟩
            obtain ⟨f2, hf2⟩ : ∃ f, decide (G.getD k 0 ≠ G.getD i 0) = f := ⟨_, rfl⟩
            rw [hf, hf2] at HF
            rw [hf] at ⊢
            rw [hf2] at tne
            obtain ⟨xi, hxi⟩ : ∃ x, gs[i].toInt = x := ⟨_, rfl⟩
            obtain ⟨xk, hxk⟩ : ∃ x, gs[k].toInt = x := ⟨_, rfl⟩
            rw [hxi] at qa tne
            rw [hxk] at qb tne
            have HO := Lib.hid ho; have HB := Lib.hid hb
            clear ho hb pi pk hf hf2 hxi hxk
            cases f with
            | true =>
              rw [Bool.true_and] at HF
              go_wp2
              go_quiet (fail)
              go_wp2
              go_roundw
              case rel => exact ⟨k + 1, by omega, by go_num, by rw [HF.out], HO.out.drewN _, below_drewN HB.out _⟩
              case measure => simp [intOf] <;> omega
            | false =>
              rw [Bool.false_and] at HF
              go_wp2
              go_quiet (fail)
              go_wp2
              go_roundw
              case rel => exact ⟨k + 1, by omega, by go_num, by rw [HF.out], HO.out.drewN _, below_drewN HB.out _⟩
              case measure => simp [intOf] <;> omega
          · have hji : i = k := by omega
            subst hji
            obtain ⟨bx, ox, rfl, qx⟩ := at_u64 HRX.out hb (Nat.le_refl _) li1
            have HST := Lib.hid (HTS.out i)
            have HSV := Lib.hid (HSG.out i lis)
            have HTK : Hid (U (seen.take (i + 1)) = U (seen.take i) ++ [.int .u64 ((T (i + 1)).2.toNat : Int)]) := by refine Lib.hid ?_; rw [List.take_succ_eq_append_getElem lis, U_snoc, HSV.out]
            obtain ⟨c, hc⟩ : ∃ c, (T i).2 = c := ⟨_, rfl⟩
            by_cases hm : G.getD i 0 ∈ (T i).1.map (G.getD · 0)
            · have tf : decide (¬ G.getD i 0 ∈ (List.range i).map (G.getD · 0)) = false := by simp only [decide_eq_false_iff_not, Decidable.not_not]; exact (HTG.out i _).1 hm
              have HE := Lib.hid (HST.out.trans (doStep_old hm))
              rw [HE.out, hc] at HTK
              have HCC := Lib.hid hc
              have HO := Lib.hid ho; have HB := Lib.hid hb
              clear ho hb hm qx
              rw [tf, hc]
              clear tf hc
              go_wp2_with (at_builtin; refine app30s [] [_] (.tmp 50) (.tmp 52) rfl rfl wr.heap.size rfl rfl rfl HO.out rfl (by omega) (by omega) ?_)
              intro e1 g1 w7 ho7 hb7 hs7
              have HO7 : Hid (Owns w7 w.heap.size [⟨36, e1, i + 1, g1, U (seen.take (i + 1))⟩, ⟨3, f0, L, h0, NI (T i).1⟩]) := by
                refine Lib.hid ?_
                rw [HTK.out]
                exact ho7
              have HB7 := Lib.hid (HB.out.trans hb7)
              clear ho7 hb7 HO HB
              go_wp2
              go_roundw
              case rel => exact ⟨i + 1, e1, f0, g1, h0, by omega, by go_num, rfl, by rw [HE.out, HLL.out], by rw [HE.out, HCC.out], by rw [HE.out, HLL.out]; exact HO7.out, HB7.out⟩
              case measure => simp [intOf] <;> omega
            · have tf : decide (¬ G.getD i 0 ∈ (List.range i).map (G.getD · 0)) = true := by simp only [decide_eq_true_eq]; exact fun h => hm ((HTG.out i _).2 h)
              have HE := Lib.hid (HST.out.trans (doStep_new hm))
              have hxg : X.getD i 0 = X[i] := by simp [li1]
              rw [hxg, hc] at HE
              obtain ⟨y, hy⟩ : ∃ y, X[i] = y := ⟨_, rfl⟩
              rw [hy] at HE qx
              obtain ⟨z, hz⟩ : ∃ z, c + y = z := ⟨_, rfl⟩
              have tw := u64_add c y
              rw [hz] at HE tw
              have HE1 : Hid ((T (i + 1)).1 = (T i).1 ++ [i]) := by show _ = _; rw [HE.out]
              have HE2 : Hid ((T (i + 1)).2 = z) := by show _ = _; rw [HE.out]
              rw [HE2.out] at HTK
              have HO := Lib.hid ho; have HB := Lib.hid hb
              clear ho hb hm HE
              rw [tf, hc]
              clear tf hc hy hxg hz HST HSV
              go_wp2_with (at_builtin; refine app3s [_] [] (.tmp 46) (.tmp 48) rfl rfl wr.heap.size rfl rfl rfl HO.out rfl (by omega) (by omega) ?_)
              intro f1 h1 w6 ho6 hb6 hs6
              have HO6 := Lib.hid ho6; have HB6 := Lib.hid (HB.out.trans hb6)
              have hs6' : w.heap.size ≤ w6.heap.size := HB6.out.size
              clear ho6 hb6 HO HB qx
              go_wp2_with (at_builtin; refine app30s [] [_] (.tmp 50) (.tmp 52) rfl rfl w6.heap.size rfl rfl rfl HO6.out rfl (by omega) (by omega) ?_)
              intro e1 g1 w7 ho7 hb7 hs7
              have HO7 : Hid (Owns w7 w.heap.size [⟨36, e1, i + 1, g1, U (seen.take (i + 1))⟩, ⟨3, f1, L + 1, h1, NI (T (i + 1)).1⟩]) := by
                refine Lib.hid ?_
                rw [HTK.out, HE1.out, NI_snoc]
                exact ho7
              have HB7 := Lib.hid (HB6.out.trans hb7)
              clear ho7 hb7 HO6 HB6
              go_wp2
              go_roundw
              case rel => exact ⟨i + 1, e1, f1, g1, h1, by omega, by go_num, rfl, by rw [HE1.out, List.length_append, HLL.out]; rfl, by rw [HE2.out], by rw [show (T (i + 1)).1.length = L + 1 by rw [HE1.out, List.length_append, HLL.out]; rfl]; exact HO7.out, HB7.out⟩
              case measure => simp [intOf] <;> omega
      · have hin : n = i := by omega
        subst hin
        rw [List.take_of_length_le (by rw [HSL.out]; omega)] at ho
        rw [HRAN.out] at ho ⊢
        have HO := Lib.hid ho; have HB := Lib.hid hb
        clear ho hb
        go_wp2
        go_ret2
        exact ⟨e0, g0, f0, h0, rfl, HO.out, HB.out⟩
  · have hlt : ¬ (n1 : Int) < (n0 : Int) := by omega
    obtain rfl := hnn1
    go_enter Try.func8, Try.ntmps8
    go_wp2
    go_loopw [19, 6, 7, 8] (fun i u v x wr => ∃ (k : Nat) (e0 f0 : Option Addr) (g0 h0 : Nat), k ≤ n ∧ i = .int .i64 k ∧ u = .slice e0 k g0 ∧ v = .slice f0 (T k).1.length h0 ∧ x = .int .u64 ((T k).2.toNat : Int) ∧ Owns wr w.heap.size [⟨36, e0, k, g0, U (seen.take k)⟩, ⟨3, f0, (T k).1.length, h0, NI (T k).1⟩] ∧ Below w.heap.size w wr) (fun i _ _ _ _ => n - (intOf i).toNat)
    case atStart =>
      refine ⟨0, _, _, _, _, Nat.zero_le _, rfl, rfl, by rw [HT0.out]; rfl, by rw [HT0.out]; rfl, ?_, B0.out⟩
      rw [HT0.out]
      have h := O0.out
      rw [World.size_alloc] at h
      exact h
    case round =>
      clear O0 B0
      obtain ⟨i, e0, f0, g0, h0, hi, rfl, rfl, rfl, rfl, ho, hb⟩ := hrel
      have hsz := hb.size
      have hdl := HTL.out i
      by_cases hlt2 : i < n
      · have li0 : i < gs.length := by omega
        have li1 : i < X.length := by omega
        have lis : i < seen.length := by rw [HSL.out]; exact hlt2
        obtain ⟨L, hL⟩ : ∃ L, (T i).1.length = L := ⟨_, rfl⟩
        rw [hL] at ho hdl ⊢
        have HLL := Lib.hid hL
        have HO := Lib.hid ho; have HB := Lib.hid hb
        clear ho hb hL
        go_wp2
        go_loopw [23, 10] (fun p f wr => ∃ (j : Nat), j ≤ i ∧ p = .int .i64 j ∧ f = .bool (decide (¬ G.getD i 0 ∈ (List.range j).map (G.getD · 0))) ∧ Owns wr w.heap.size [⟨36, e0, i, g0, U (seen.take i)⟩, ⟨3, f0, L, h0, NI (T i).1⟩] ∧ Below w.heap.size w wr) (fun p _ _ => i - (intOf p).toNat)
        case atStart => exact ⟨0, Nat.zero_le _, rfl, by simp, HO.out, HB.out⟩
        case round =>
          clear HO HB
          obtain ⟨k, hj, rfl, rfl, ho, hb⟩ := hrel
          have hsz := hb.size
          by_cases hlj : k < i
          · have lk0 : k < gs.length := by omega
            have HF := Lib.hid (range_first (G := G) (i := i) (k := k))
            obtain ⟨ba, oa, hea, qa⟩ := at_i8 HRG.out hb (Nat.le_refl _) li0
            obtain ⟨bb, ob, heb, qb⟩ := at_i8 HRG.out hb (Nat.le_refl _) lk0
            have hab := hea.symm.trans heb
            simp only [Option.some.injEq, Addr.mk.injEq, and_true] at hab
            obtain ⟨rfl, rfl⟩ := hab
            subst hea
            clear heb
            have pi := HPG.out i li0
            have pk := HPG.out k lk0
            have tne : (gs[k].toInt != gs[i].toInt) = decide (G.getD k 0 ≠ G.getD i 0) := by
              rw [Bool.eq_iff_iff]
              simp only [bne_iff_ne, ne_eq, decide_eq_true_eq]
              omega
            obtain ⟨f, hf⟩ : ∃ f, decide (¬ G.getD i 0 ∈ (List.range k).map (G.getD · 0)) = f := ⟨_, rfl⟩
            obtain ⟨f2, hf2⟩ : ∃ f, decide (G.getD k 0 ≠ G.getD i 0) = f := ⟨_, rfl⟩
            rw [hf, hf2] at HF
            rw [hf] at ⊢
            rw [hf2] at tne
            obtain ⟨xi, hxi⟩ : ∃ x, gs[i].toInt = x := ⟨_, rfl⟩
            obtain ⟨xk, hxk⟩ : ∃ x, gs[k].toInt = x := ⟨_, rfl⟩
            rw [hxi] at qa tne
            rw [hxk] at qb tne
            have HO := Lib.hid ho; have HB := Lib.hid hb
            clear ho hb pi pk hf hf2 hxi hxk
            cases f with
            | true =>
              rw [Bool.true_and] at HF
              go_wp2
              go_quiet (fail)
              go_wp2
              go_roundw
              case rel => exact ⟨k + 1, by omega, by go_num, by rw [HF.out], HO.out.drewN _, below_drewN HB.out _⟩
              case measure => simp [intOf] <;> omega
            | false =>
              rw [Bool.false_and] at HF
              go_wp2
              go_quiet (fail)
              go_wp2
              go_roundw
              case rel => exact ⟨k + 1, by omega, by go_num, by rw [HF.out], HO.out.drewN _, below_drewN HB.out _⟩
              case measure => simp [intOf] <;> omega
          · have hji : i = k := by omega
            subst hji
            obtain ⟨bx, ox, rfl, qx⟩ := at_u64 HRX.out hb (Nat.le_refl _) li1
            have HST := Lib.hid (HTS.out i)
            have HSV := Lib.hid (HSG.out i lis)
            have HTK : Hid (U (seen.take (i + 1)) = U (seen.take i) ++ [.int .u64 ((T (i + 1)).2.toNat : Int)]) := by refine Lib.hid ?_; rw [List.take_succ_eq_append_getElem lis, U_snoc, HSV.out]
            obtain ⟨c, hc⟩ : ∃ c, (T i).2 = c := ⟨_, rfl⟩
            by_cases hm : G.getD i 0 ∈ (T i).1.map (G.getD · 0)
            · have tf : decide (¬ G.getD i 0 ∈ (List.range i).map (G.getD · 0)) = false := by simp only [decide_eq_false_iff_not, Decidable.not_not]; exact (HTG.out i _).1 hm
              have HE := Lib.hid (HST.out.trans (doStep_old hm))
              rw [HE.out, hc] at HTK
              have HCC := Lib.hid hc
              have HO := Lib.hid ho; have HB := Lib.hid hb
              clear ho hb hm qx
              rw [tf, hc]
              clear tf hc
              go_wp2_with (at_builtin; refine app30s [] [_] (.tmp 50) (.tmp 52) rfl rfl wr.heap.size rfl rfl rfl HO.out rfl (by omega) (by omega) ?_)
              intro e1 g1 w7 ho7 hb7 hs7
              have HO7 : Hid (Owns w7 w.heap.size [⟨36, e1, i + 1, g1, U (seen.take (i + 1))⟩, ⟨3, f0, L, h0, NI (T i).1⟩]) := by
                refine Lib.hid ?_
                rw [HTK.out]
                exact ho7
              have HB7 := Lib.hid (HB.out.trans hb7)
              clear ho7 hb7 HO HB
              go_wp2
              go_roundw
              case rel => exact ⟨i + 1, e1, f0, g1, h0, by omega, by go_num, rfl, by rw [HE.out, HLL.out], by rw [HE.out, HCC.out], by rw [HE.out, HLL.out]; exact HO7.out, HB7.out⟩
              case measure => simp [intOf] <;> omega
            · have tf : decide (¬ G.getD i 0 ∈ (List.range i).map (G.getD · 0)) = true := by simp only [decide_eq_true_eq]; exact fun h => hm ((HTG.out i _).2 h)
              have HE := Lib.hid (HST.out.trans (doStep_new hm))
              have hxg : X.getD i 0 = X[i] := by simp [li1]
              rw [hxg, hc] at HE
              obtain ⟨y, hy⟩ : ∃ y, X[i] = y := ⟨_, rfl⟩
              rw [hy] at HE qx
              obtain ⟨z, hz⟩ : ∃ z, c + y = z := ⟨_, rfl⟩
              have tw := u64_add c y
              rw [hz] at HE tw
              have HE1 : Hid ((T (i + 1)).1 = (T i).1 ++ [i]) := by show _ = _; rw [HE.out]
              have HE2 : Hid ((T (i + 1)).2 = z) := by show _ = _; rw [HE.out]
              rw [HE2.out] at HTK
              have HO := Lib.hid ho; have HB := Lib.hid hb
              clear ho hb hm HE
              rw [tf, hc]
              clear tf hc hy hxg hz HST HSV
              go_wp2_with (at_builtin; refine app3s [_] [] (.tmp 46) (.tmp 48) rfl rfl wr.heap.size rfl rfl rfl HO.out rfl (by omega) (by omega) ?_)
              intro f1 h1 w6 ho6 hb6 hs6
              have HO6 := Lib.hid ho6; have HB6 := Lib.hid (HB.out.trans hb6)
              have hs6' : w.heap.size ≤ w6.heap.size := HB6.out.size
              clear ho6 hb6 HO HB qx
              go_wp2_with (at_builtin; refine app30s [] [_] (.tmp 50) (.tmp 52) rfl rfl w6.heap.size rfl rfl rfl HO6.out rfl (by omega) (by omega) ?_)
              intro e1 g1 w7 ho7 hb7 hs7
              have HO7 : Hid (Owns w7 w.heap.size [⟨36, e1, i + 1, g1, U (seen.take (i + 1))⟩, ⟨3, f1, L + 1, h1, NI (T (i + 1)).1⟩]) := by
                refine Lib.hid ?_
                rw [HTK.out, HE1.out, NI_snoc]
                exact ho7
              have HB7 := Lib.hid (HB6.out.trans hb7)
              clear ho7 hb7 HO6 HB6
              go_wp2
              go_roundw
              case rel => exact ⟨i + 1, e1, f1, g1, h1, by omega, by go_num, rfl, by rw [HE1.out, List.length_append, HLL.out]; rfl, by rw [HE2.out], by rw [show (T (i + 1)).1.length = L + 1 by rw [HE1.out, List.length_append, HLL.out]; rfl]; exact HO7.out, HB7.out⟩
              case measure => simp [intOf] <;> omega
      · have hin : n = i := by omega
        subst hin
        rw [List.take_of_length_le (by rw [HSL.out]; omega)] at ho
        rw [HRAN.out] at ho ⊢
        have HO := Lib.hid ho; have HB := Lib.hid hb
        clear ho hb
        go_wp2
        go_ret2
        exact ⟨e0, g0, f0, h0, rfl, HO.out, HB.out⟩
end Go.Proofs.Ytjjmjjbeecmmlaf
