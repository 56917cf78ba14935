/-
  The walk of FnOnceGroups: of each group the first call alone adds its number.
-/
import Derived.Test.YtjjmjjbeecmmlafAlive
import Derived.Deep.RegionWith
namespace Go.Proofs.Ytjjmjjbeecmmlaf
set_option linter.unusedVariables false
set_option linter.unusedSimpArgs false
open Go.RowKit

theorem groups_first {G : List Nat} {D : List Nat} {j k i : Nat} (h : j < D.length) (hk : D[j] = k) : decide (¬ G.getD i 0 ∈ (D.take (j + 1)).map (G.getD · 0)) = (decide (¬ G.getD i 0 ∈ (D.take j).map (G.getD · 0)) && decide (G.getD k 0 ≠ G.getD i 0)) := by
  rw [List.take_succ_eq_append_getElem h, hk, List.map_append, Bool.eq_iff_iff]
  simp only [Bool.and_eq_true, decide_eq_true_eq, List.mem_append, List.map_cons, List.map_nil, List.mem_singleton]
  constructor
  · intro h1; exact ⟨fun h2 => h1 (.inl h2), fun h2 => h1 (.inr h2.symm)⟩
  · rintro ⟨h1, h2⟩ h3
    rcases h3 with h3 | h3
    · exact h1 h3
    · exact h2 h3.symm

set_option maxHeartbeats 6400000 in
set_option maxRecDepth 100000 in
theorem fnOnceGroups_any (w : World) (a0 : Option Addr) (n0 c0 : Nat) (x0 : List (BitVec 8)) (k0 : Came w a0 n0 c0 (I8 x0)) (a1 : Option Addr) (n1 c1 : Nat) (x1 : List (BitVec 64)) (k1 : Came w a1 n1 c1 (U x1)) (bd0 : n0 * 1 ≤ 140737488351232) (bd1 : n1 * 8 ≤ 140737488351232) :
    Calls Try.prog 4 #[.slice a0 n0 c0, .slice a1 n1 c1] w fun e w' => e = .returned (.bool true) ∧ Below w.heap.size w w' := by
  have K0 := Lib.hid k0.i8; have K1 := Lib.hid k1.u64
  clear k0 k1
  have hc0 := K0.out.2.2.1; have hc1 := K1.out.2.2.1
  obtain ⟨n, hn⟩ : ∃ n, min n0 n1 = n := ⟨_, rfl⟩
  have hnn : n ≤ n0 ∧ n ≤ n1 := by omega
  obtain ⟨A0, hs0, hA0, hr0⟩ := slice_to Try.underlying22 (fun _ => by kernel_rfl) a0 n0 c0 n (by omega) K0.out.2.2.2
  obtain ⟨A1, hs1, hA1, hr1⟩ := slice_to Try.underlying23 (fun _ => by kernel_rfl) a1 n1 c1 n (by omega) K1.out.2.2.2
  have HR0 := Lib.hid (I8_take ▸ hr0 w _ K0.out.1 (by simp [I8, K0.out.2.1]; omega))
  have HR1 := Lib.hid (U_take ▸ hr1 w _ K1.out.1 (by simp [U, K1.out.2.1]; omega))
  clear hr0 hr1
  have HL0 : Hid ((x0.take n).length = n) := by show _ = _; simp [K0.out.2.1]; omega
  have HL1 : Hid ((x1.take n).length = n) := by show _ = _; simp [K1.out.2.1]; omega
  obtain ⟨G, hG⟩ : ∃ G, places (x0.take n) = G := ⟨_, rfl⟩
  have HPG : Hid (∀ i (h : i < x0.length), i < n → (G.getD i 0 : Int) = x0[i].toInt + 128) := by
    refine Lib.hid fun i h h' => ?_
    rw [← hG]
    have := (places_get (gs := x0.take n) (i := i) (by rw [HL0.out]; exact h')).1
    rw [this]
    simp
  obtain ⟨X, hX⟩ : ∃ X, x1.take n = X := ⟨_, rfl⟩
  have HXG : Hid (∀ i (h : i < x1.length), i < n → X.getD i 0 = x1[i]) := by
    refine Lib.hid fun i h h' => ?_
    rw [← hX]
    simp [h, h']
  rw [hX] at HL1 HR1
  obtain ⟨seen, hseen⟩ : ∃ s, seenDo G X n = s := ⟨_, rfl⟩
  obtain ⟨T, hT⟩ : ∃ T, doAt G X = T := ⟨_, rfl⟩
  obtain ⟨ran, hran⟩ : ∃ r, (doAt G X n).1 = r := ⟨_, rfl⟩
  have HT0 : Hid (T 0 = ([], 0)) := by show _ = _; rw [← hT]; rfl
  have HTS : Hid (∀ k, T (k + 1) = doStep G X (T k) k) := by refine Lib.hid fun k => ?_; rw [← hT]; exact doAt_succ
  have HTL : Hid (∀ k, (T k).1.length ≤ k) := by refine Lib.hid fun k => ?_; rw [← hT]; exact doAt_short k
  have HTM : Hid (∀ k, ∀ x ∈ (T k).1, x < k) := by refine Lib.hid fun k => ?_; rw [← hT]; exact fun x h => doAt_lt h
  have HSL : Hid (seen.length = n) := by show _ = _; rw [← hseen]; simp [seenDo]
  have HSG : Hid (∀ k (h : k < seen.length), seen[k] = (T (k + 1)).2) := by refine Lib.hid ?_; subst hseen; intro k h; rw [← hT]; simp [seenDo]
  have HRAN : Hid ((T n).1 = ran) := by show _ = _; rw [← hT]; exact hran
  have hrl : ran.length ≤ n := by rw [← HRAN.out]; exact HTL.out n
  have HC : Hid (∀ wv : World, Below w.heap.size w wv → Calls Try.prog 11 #[.slice A0 n c0, .slice A1 n c1] wv (Done wv n seen ran)) := by
    refine Lib.hid fun wv hwv => ?_
    exact onceDo_any wv A0 A1 n n c0 c1 n (x0.take n) X HL0.out (HR0.out.mono hwv (Nat.le_refl _)) HL1.out (HR1.out.mono hwv (Nat.le_refl _)) (by omega) (by omega) (by omega) G hG seen hseen ran hran
  have HTT := Lib.hid hT
  clear hseen hT hran hG hX HR0 HR1 HL0 HL1 hA0 hA1
  have hx0 : n ≤ x0.length := by rw [K0.out.2.1]; omega
  have hx1 : n ≤ x1.length := by rw [K1.out.2.1]; omega
  have tmin : (min (n0 : Int) (n1 : Int)) = (n : Int) := by omega
  have tn : ((n : Int) != (n : Int)) = false := by simp
  by_cases hlt : (n1 : Int) < (n0 : Int)
  · have hnn1 : n = n1 := by omega
    obtain rfl := hnn1
    go_enter Try.func4, Try.ntmps4
    go_wp2
    go_region_with (go_at_call 11; refine (HC.out _ (by exact (Below.refl _ _).drew)).mono ?_; rintro e w1 ⟨s0, d0, s1, d1, rfl, ho, hb⟩)
    all_goals
      have B1 : Hid (Below w.heap.size w w1) := Lib.hid ((Below.refl _ _).drew.trans hb)
      have O1 : Hid (Owns w1 w.heap.size [⟨36, s0, n, d0, U seen⟩, ⟨3, s1, ran.length, d1, NI ran⟩]) := Lib.hid ho
      have hz1 := B1.out.size
      have O2 := Lib.hid (O1.out.made hz1 3 #[] (by simp))
      have B2 := Lib.hid (B1.out.alloc hz1 (.cells #[] 3))
      clear ho hb O1 B1 hz1 HC
      go_wp2
      go_loopw [35, 8, 9] (fun i u v wr => ∃ (k : Nat) (e0 : Option Addr) (g0 : Nat), k ≤ n ∧ i = .int .i64 k ∧ u = .slice e0 (T k).1.length g0 ∧ v = .int .u64 ((T k).2.toNat : Int) ∧ Owns wr w.heap.size [⟨36, s0, n, d0, U seen⟩, ⟨3, s1, ran.length, d1, NI ran⟩, ⟨3, e0, (T k).1.length, g0, NI (T k).1⟩] ∧ Below w.heap.size w wr) (fun i _ _ _ => n - (intOf i).toNat)
      case atStart =>
        refine ⟨0, _, _, Nat.zero_le _, rfl, by rw [HT0.out]; rfl, by rw [HT0.out]; rfl, ?_, B2.out⟩
        rw [HT0.out]
        exact O2.out
      case round =>
        clear O2 B2
        obtain ⟨i, e0, g0, hi, rfl, rfl, rfl, ho, hb⟩ := hrel
        have hsz := hb.size
        have hdl := HTL.out i
        by_cases hlt2 : i < n
        · have li0 : i < x0.length := by omega
          have li1 : i < x1.length := by omega
          have lis : i < seen.length := by rw [HSL.out]; exact hlt2
          obtain ⟨L, hL⟩ : ∃ L, (T i).1.length = L := ⟨_, rfl⟩
          rw [hL] at ho hdl ⊢
          have HLL := Lib.hid hL
          have HO := Lib.hid ho; have HB := Lib.hid hb
          clear ho hb hL
          go_wp2
          go_loopw [40, 11] (fun p f wr => ∃ (j : Nat), j ≤ L ∧ p = .int .i64 j ∧ f = .bool (decide (¬ G.getD i 0 ∈ ((T i).1.take j).map (G.getD · 0))) ∧ Owns wr w.heap.size [⟨36, s0, n, d0, U seen⟩, ⟨3, s1, ran.length, d1, NI ran⟩, ⟨3, e0, L, g0, NI (T i).1⟩] ∧ Below w.heap.size w wr) (fun p _ _ => L - (intOf p).toNat)
          case atStart => exact ⟨0, Nat.zero_le _, rfl, by simp, HO.out, HB.out⟩
          case round =>
            clear HO HB
            obtain ⟨j, hj, rfl, rfl, ho, hb⟩ := hrel
            have hsz := hb.size
            by_cases hlj : j < L
            · have lj : j < (T i).1.length := by rw [HLL.out]; exact hlj
              obtain ⟨k, hk⟩ : ∃ k, (T i).1[j] = k := ⟨_, rfl⟩
              have hki : k < i := HTM.out i k (by rw [← hk]; exact List.getElem_mem lj)
              have lk0 : k < x0.length := by omega
              have HF := Lib.hid (groups_first (G := G) (i := i) lj hk)
              obtain ⟨b2, rfl⟩ := ho.addr 2 rfl (k := j) (by simpa using lj)
              have q2 := ho.getI 2 rfl lj
              rw [hk] at q2
              obtain ⟨ba, oa, hea, qa⟩ := at_i8 K0.out.1 hb (Nat.le_refl _) li0
              obtain ⟨bb, ob, heb, qb⟩ := at_i8 K0.out.1 hb (Nat.le_refl _) lk0
              have hab := hea.symm.trans heb
              simp only [Option.some.injEq, Addr.mk.injEq, and_true] at hab
              obtain ⟨rfl, rfl⟩ := hab
              subst hea
              clear heb
              have pi := HPG.out i li0 hlt2
              have pk := HPG.out k lk0 (by omega)
              have tne : (x0[k].toInt != x0[i].toInt) = decide (G.getD k 0 ≠ G.getD i 0) := by
                rw [Bool.eq_iff_iff]
                simp only [bne_iff_ne, ne_eq, decide_eq_true_eq]
                omega
              obtain ⟨f, hf⟩ : ∃ f, decide (¬ G.getD i 0 ∈ ((T i).1.take j).map (G.getD · 0)) = f := ⟨_, rfl⟩
              obtain ⟨f2, hf2⟩ : ∃ f, decide (G.getD k 0 ≠ G.getD i 0) = f := ⟨_, rfl⟩
              rw [hf, hf2] at HF
              rw [hf] at ⊢
              rw [hf2] at tne
              obtain ⟨xi, hxi⟩ : ∃ x, x0[i].toInt = x := ⟨_, rfl⟩
              obtain ⟨xk, hxk⟩ : ∃ x, x0[k].toInt = x := ⟨_, rfl⟩
              rw [hxi] at qa tne
              rw [hxk] at qb tne
              have HO := Lib.hid ho; have HB := Lib.hid hb
              clear ho hb pi pk hf hf2 hk hxi hxk
              cases f with
              | true =>
                rw [Bool.true_and] at HF
                go_wp2
                go_quiet (fail)
                go_wp2
                go_roundw
                case rel => exact ⟨j + 1, by omega, by go_num, by rw [HF.out], HO.out.drewN _, below_drewN HB.out _⟩
                case measure => simp [intOf] <;> omega
              | false =>
                rw [Bool.false_and] at HF
                go_wp2
                go_quiet (fail)
                go_wp2
                go_roundw
                case rel => exact ⟨j + 1, by omega, by go_num, by rw [HF.out], HO.out.drewN _, below_drewN HB.out _⟩
                case measure => simp [intOf] <;> omega
            · have hjL : L = j := by omega
              subst hjL
              rw [List.take_of_length_le (by rw [HLL.out]; omega)]
              obtain ⟨b0, rfl⟩ := ho.addr 0 rfl (k := i) (by simpa using lis)
              obtain ⟨bx, ox, rfl, qx⟩ := at_u64 K1.out.1 hb (Nat.le_refl _) li1
              have HX := Lib.hid (HXG.out i li1 hlt2)
              have HST := Lib.hid (HTS.out i)
              have HSV := Lib.hid (HSG.out i lis)
              obtain ⟨c, hc⟩ : ∃ c, (T i).2 = c := ⟨_, rfl⟩
              by_cases hm : G.getD i 0 ∈ (T i).1.map (G.getD · 0)
              · have tf : decide (¬ G.getD i 0 ∈ (T i).1.map (G.getD · 0)) = false := by simp only [decide_eq_false_iff_not, Decidable.not_not]; exact hm
                have HE := Lib.hid (HST.out.trans (doStep_old hm))
                rw [HE.out, hc] at HSV
                have q0 := ho.get64 0 rfl lis
                rw [HSV.out] at q0
                have HCC := Lib.hid hc
                have tc : ((c.toNat : Int) != (c.toNat : Int)) = false := by simp
                have HO := Lib.hid ho; have HB := Lib.hid hb
                clear ho hb hm qx
                rw [tf, hc]
                clear tf hc
                go_wp2
                try go_quiet (fail)
                try go_wp2
                go_roundw
                case rel => exact ⟨i + 1, e0, g0, by omega, by go_num, by rw [HE.out, HLL.out], by rw [HE.out, HCC.out], by rw [HE.out, HLL.out]; first | exact HO.out | exact HO.out.drewN _, by first | exact HB.out | exact below_drewN HB.out _⟩
                case measure => simp [intOf] <;> omega
              · have tf : decide (¬ G.getD i 0 ∈ (T i).1.map (G.getD · 0)) = true := by simp only [decide_eq_true_eq]; exact hm
                have HE := Lib.hid (HST.out.trans (doStep_new hm))
                rw [HX.out, hc] at HE
                have HE1 : Hid ((T (i + 1)).1 = (T i).1 ++ [i]) := by show _ = _; rw [HE.out]
                have HE2 : Hid ((T (i + 1)).2 = c + x1[i]) := by show _ = _; rw [HE.out]
                rw [HE2.out] at HSV
                have HCC := Lib.hid hc
                have HO := Lib.hid ho; have HB := Lib.hid hb
                clear ho hb hm HE
                rw [tf, hc]
                clear tf hc qx HX
                go_wp2_with (at_builtin; refine app3s [_, _] [] (.tmp 58) (.tmp 60) rfl rfl wr.heap.size rfl rfl rfl HO.out rfl (by omega) (by omega) ?_)
                intro e1 g1 w7 ho7 hb7 hs7
                have HO7 := Lib.hid ho7; have HB7 := Lib.hid (HB.out.trans hb7)
                clear ho7 hb7 HO HB
                have q0 := HO7.out.get64 0 rfl lis
                rw [HSV.out] at q0
                obtain ⟨bc, oc, hey, qy⟩ := at_u64 K1.out.1 HB7.out (Nat.le_refl _) li1
                simp only [Option.some.injEq, Addr.mk.injEq, and_true] at hey
                obtain ⟨rfl, rfl⟩ := hey
                obtain ⟨y, hy⟩ : ∃ y, x1[i] = y := ⟨_, rfl⟩
                rw [hy] at qy HE2 q0
                clear hy
                have tw := u64_add c y
                obtain ⟨z, hz⟩ : ∃ z, c + y = z := ⟨_, rfl⟩
                rw [hz] at tw q0 HE2
                clear hz
                have tc : ((z.toNat : Int) != (z.toNat : Int)) = false := by simp
                go_wp2
                try go_quiet (fail)
                try go_wp2
                go_roundw
                case rel => exact ⟨i + 1, e1, g1, by omega, by go_num, by rw [HE1.out, List.length_append, HLL.out]; rfl, by rw [HE2.out], by rw [show (T (i + 1)).1.length = L + 1 by rw [HE1.out, List.length_append, HLL.out]; rfl, HE1.out, NI_snoc]; first | exact HO7.out | exact HO7.out.drewN _, by first | exact HB7.out | exact below_drewN HB7.out _⟩
                case measure => simp [intOf] <;> omega
        · have hin : n = i := by omega
          subst hin
          rw [HRAN.out] at ho ⊢
          have HO := Lib.hid ho; have HB := Lib.hid hb
          clear ho hb
          go_wp2_with fail
          refine (sameInts_any s1 e0 d1 g0 ran.length ran.length ran ran wr (HO.out.rdAt 1 rfl) (HO.out.rdAt 2 rfl) rfl rfl (by omega) (by omega) true (by simp)).mono ?_
          rintro e w6 ⟨rfl, hb6⟩
          have HB6 := Lib.hid (Below.more HB.out hb6 hsz)
          clear hb6 HB HO
          have hs6 := HB6.out.size
          go_wp2_with fail
          refine (oAlive_any w6).mono ?_
          rintro e w8 ⟨rfl, hb8⟩
          have HB8 := Lib.hid (Below.more HB6.out hb8 hs6)
          clear hb8
          go_wp2
          go_ret
          exact ⟨rfl, HB8.out⟩
  · have hnn1 : n = n0 := by omega
    obtain rfl := hnn1
    go_enter Try.func4, Try.ntmps4
    go_wp2
    go_region_with (go_at_call 11; refine (HC.out _ (by exact (Below.refl _ _).drew)).mono ?_; rintro e w1 ⟨s0, d0, s1, d1, rfl, ho, hb⟩)
    all_goals
      have B1 : Hid (Below w.heap.size w w1) := Lib.hid ((Below.refl _ _).drew.trans hb)
      have O1 : Hid (Owns w1 w.heap.size [⟨36, s0, n, d0, U seen⟩, ⟨3, s1, ran.length, d1, NI ran⟩]) := Lib.hid ho
      have hz1 := B1.out.size
      have O2 := Lib.hid (O1.out.made hz1 3 #[] (by simp))
      have B2 := Lib.hid (B1.out.alloc hz1 (.cells #[] 3))
      clear ho hb O1 B1 hz1 HC
      go_wp2
      go_loopw [35, 8, 9] (fun i u v wr => ∃ (k : Nat) (e0 : Option Addr) (g0 : Nat), k ≤ n ∧ i = .int .i64 k ∧ u = .slice e0 (T k).1.length g0 ∧ v = .int .u64 ((T k).2.toNat : Int) ∧ Owns wr w.heap.size [⟨36, s0, n, d0, U seen⟩, ⟨3, s1, ran.length, d1, NI ran⟩, ⟨3, e0, (T k).1.length, g0, NI (T k).1⟩] ∧ Below w.heap.size w wr) (fun i _ _ _ => n - (intOf i).toNat)
      case atStart =>
        refine ⟨0, _, _, Nat.zero_le _, rfl, by rw [HT0.out]; rfl, by rw [HT0.out]; rfl, ?_, B2.out⟩
        rw [HT0.out]
        exact O2.out
      case round =>
        clear O2 B2
        obtain ⟨i, e0, g0, hi, rfl, rfl, rfl, ho, hb⟩ := hrel
        have hsz := hb.size
        have hdl := HTL.out i
        by_cases hlt2 : i < n
        · have li0 : i < x0.length := by omega
          have li1 : i < x1.length := by omega
          have lis : i < seen.length := by rw [HSL.out]; exact hlt2
          obtain ⟨L, hL⟩ : ∃ L, (T i).1.length = L := ⟨_, rfl⟩
          rw [hL] at ho hdl ⊢
          have HLL := Lib.hid hL
          have HO := Lib.hid ho; have HB := Lib.hid hb
          clear ho hb hL
          go_wp2
          go_loopw [40, 11] (fun p f wr => ∃ (j : Nat), j ≤ L ∧ p = .int .i64 j ∧ f = .bool (decide (¬ G.getD i 0 ∈ ((T i).1.take j).map (G.getD · 0))) ∧ Owns wr w.heap.size [⟨36, s0, n, d0, U seen⟩, ⟨3, s1, ran.length, d1, NI ran⟩, ⟨3, e0, L, g0, NI (T i).1⟩] ∧ Below w.heap.size w wr) (fun p _ _ => L - (intOf p).toNat)
          case atStart => exact ⟨0, Nat.zero_le _, rfl, by simp, HO.out, HB.out⟩
          case round =>
            clear HO HB
            obtain ⟨j, hj, rfl, rfl, ho, hb⟩ := hrel
            have hsz := hb.size
            by_cases hlj : j < L
            · have lj : j < (T i).1.length := by rw [HLL.out]; exact hlj
              obtain ⟨k, hk⟩ : ∃ k, (T i).1[j] = k := ⟨_, rfl⟩
              have hki : k < i := HTM.out i k (by rw [← hk]; exact List.getElem_mem lj)
              have lk0 : k < x0.length := by omega
              have HF := Lib.hid (groups_first (G := G) (i := i) lj hk)
              obtain ⟨b2, rfl⟩ := ho.addr 2 rfl (k := j) (by simpa using lj)
              have q2 := ho.getI 2 rfl lj
              rw [hk] at q2
              obtain ⟨ba, oa, hea, qa⟩ := at_i8 K0.out.1 hb (Nat.le_refl _) li0
              obtain ⟨bb, ob, heb, qb⟩ := at_i8 K0.out.1 hb (Nat.le_refl _) lk0
              have hab := hea.symm.trans heb
              simp only [Option.some.injEq, Addr.mk.injEq, and_true] at hab
              obtain ⟨rfl, rfl⟩ := hab
              subst hea
              clear heb
              have pi := HPG.out i li0 hlt2
              have pk := HPG.out k lk0 (by omega)
              have tne : (x0[k].toInt != x0[i].toInt) = decide (G.getD k 0 ≠ G.getD i 0) := by
                rw [Bool.eq_iff_iff]
                simp only [bne_iff_ne, ne_eq, decide_eq_true_eq]
                omega
              obtain ⟨f, hf⟩ : ∃ f, decide (¬ G.getD i 0 ∈ ((T i).1.take j).map (G.getD · 0)) = f := ⟨_, rfl⟩
              obtain ⟨f2, hf2⟩ : ∃ f, decide (G.getD k 0 ≠ G.getD i 0) = f := ⟨_, rfl⟩
              rw [hf, hf2] at HF
              rw [hf] at ⊢
              rw [hf2] at tne
              obtain ⟨xi, hxi⟩ : ∃ x, x0[i].toInt = x := ⟨_, rfl⟩
              obtain ⟨xk, hxk⟩ : ∃ x, x0[k].toInt = x := ⟨_, rfl⟩
              rw [hxi] at qa tne
              rw [hxk] at qb tne
              have HO := Lib.hid ho; have HB := Lib.hid hb
              clear ho hb pi pk hf hf2 hk hxi hxk
              cases f with
              | true =>
                rw [Bool.true_and] at HF
                go_wp2
                go_quiet (fail)
                go_wp2
                go_roundw
                case rel => exact ⟨j + 1, by omega, by go_num, by rw [HF.out], HO.out.drewN _, below_drewN HB.out _⟩
                case measure => simp [intOf] <;> omega
              | false =>
                rw [Bool.false_and] at HF
                go_wp2
                go_quiet (fail)
                go_wp2
                go_roundw
                case rel => exact ⟨j + 1, by omega, by go_num, by rw [HF.out], HO.out.drewN _, below_drewN HB.out _⟩
                case measure => simp [intOf] <;> omega
            · have hjL : L = j := by omega
              subst hjL
              rw [List.take_of_length_le (by rw [HLL.out]; omega)]
              obtain ⟨b0, rfl⟩ := ho.addr 0 rfl (k := i) (by simpa using lis)
              obtain ⟨bx, ox, rfl, qx⟩ := at_u64 K1.out.1 hb (Nat.le_refl _) li1
              have HX := Lib.hid (HXG.out i li1 hlt2)
              have HST := Lib.hid (HTS.out i)
              have HSV := Lib.hid (HSG.out i lis)
              obtain ⟨c, hc⟩ : ∃ c, (T i).2 = c := ⟨_, rfl⟩
              by_cases hm : G.getD i 0 ∈ (T i).1.map (G.getD · 0)
              · have tf : decide (¬ G.getD i 0 ∈ (T i).1.map (G.getD · 0)) = false := by simp only [decide_eq_false_iff_not, Decidable.not_not]; exact hm
                have HE := Lib.hid (HST.out.trans (doStep_old hm))
                rw [HE.out, hc] at HSV
                have q0 := ho.get64 0 rfl lis
                rw [HSV.out] at q0
                have HCC := Lib.hid hc
                have tc : ((c.toNat : Int) != (c.toNat : Int)) = false := by simp
                have HO := Lib.hid ho; have HB := Lib.hid hb
                clear ho hb hm qx
                rw [tf, hc]
                clear tf hc
                go_wp2
                try go_quiet (fail)
                try go_wp2
                go_roundw
                case rel => exact ⟨i + 1, e0, g0, by omega, by go_num, by rw [HE.out, HLL.out], by rw [HE.out, HCC.out], by rw [HE.out, HLL.out]; first | exact HO.out | exact HO.out.drewN _, by first | exact HB.out | exact below_drewN HB.out _⟩
                case measure => simp [intOf] <;> omega
              · have tf : decide (¬ G.getD i 0 ∈ (T i).1.map (G.getD · 0)) = true := by simp only [decide_eq_true_eq]; exact hm
                have HE := Lib.hid (HST.out.trans (doStep_new hm))
                rw [HX.out, hc] at HE
                have HE1 : Hid ((T (i + 1)).1 = (T i).1 ++ [i]) := by show _ = _; rw [HE.out]
                have HE2 : Hid ((T (i + 1)).2 = c + x1[i]) := by show _ = _; rw [HE.out]
                rw [HE2.out] at HSV
                have HCC := Lib.hid hc
                have HO := Lib.hid ho; have HB := Lib.hid hb
                clear ho hb hm HE
                rw [tf, hc]
                clear tf hc qx HX
                go_wp2_with (at_builtin; refine app3s [_, _] [] (.tmp 58) (.tmp 60) rfl rfl wr.heap.size rfl rfl rfl HO.out rfl (by omega) (by omega) ?_)
                intro e1 g1 w7 ho7 hb7 hs7
                have HO7 := Lib.hid ho7; have HB7 := Lib.hid (HB.out.trans hb7)
                clear ho7 hb7 HO HB
                have q0 := HO7.out.get64 0 rfl lis
                rw [HSV.out] at q0
                obtain ⟨bc, oc, hey, qy⟩ := at_u64 K1.out.1 HB7.out (Nat.le_refl _) li1
                simp only [Option.some.injEq, Addr.mk.injEq, and_true] at hey
                obtain ⟨rfl, rfl⟩ := hey
                obtain ⟨y, hy⟩ : ∃ y, x1[i] = y := ⟨_, rfl⟩
                rw [hy] at qy HE2 q0
                clear hy
                have tw := u64_add c y
                obtain ⟨z, hz⟩ : ∃ z, c + y = z := ⟨_, rfl⟩
                rw [hz] at tw q0 HE2
                clear hz
                have tc : ((z.toNat : Int) != (z.toNat : Int)) = false := by simp
                go_wp2
                try go_quiet (fail)
                try go_wp2
                go_roundw
                case rel => exact ⟨i + 1, e1, g1, by omega, by go_num, by rw [HE1.out, List.length_append, HLL.out]; rfl, by rw [HE2.out], by rw [show (T (i + 1)).1.length = L + 1 by rw [HE1.out, List.length_append, HLL.out]; rfl, HE1.out, NI_snoc]; first | exact HO7.out | exact HO7.out.drewN _, by first | exact HB7.out | exact below_drewN HB7.out _⟩
                case measure => simp [intOf] <;> omega
        · have hin : n = i := by omega
          subst hin
          rw [HRAN.out] at ho ⊢
          have HO := Lib.hid ho; have HB := Lib.hid hb
          clear ho hb
          go_wp2_with fail
          refine (sameInts_any s1 e0 d1 g0 ran.length ran.length ran ran wr (HO.out.rdAt 1 rfl) (HO.out.rdAt 2 rfl) rfl rfl (by omega) (by omega) true (by simp)).mono ?_
          rintro e w6 ⟨rfl, hb6⟩
          have HB6 := Lib.hid (Below.more HB.out hb6 hsz)
          clear hb6 HB HO
          have hs6 := HB6.out.size
          go_wp2_with fail
          refine (oAlive_any w6).mono ?_
          rintro e w8 ⟨rfl, hb8⟩
          have HB8 := Lib.hid (Below.more HB6.out hb8 hs6)
          clear hb8
          go_wp2
          go_ret
          exact ⟨rfl, HB8.out⟩
end Go.Proofs.Ytjjmjjbeecmmlaf
