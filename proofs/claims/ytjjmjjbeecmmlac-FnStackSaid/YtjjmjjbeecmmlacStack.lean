/-
  The walk of FnStack: cells with the number of the top and of what is below are a stack.
-/
import Derived.Test.YtjjmjjbeecmmlacCall
import Derived.Test.YtjjmjjbeecmmlacGrow
import Derived.Test.YtjjmjjbeecmmlacSlices
import Derived.Test.YtjjmjjbeecmmlacRingPlain
import Derived.Test.YtjjmjjbeecmmlacFrame
namespace Go.Proofs.Ytjjmjjbeecmmlac
set_option linter.unusedVariables false
set_option linter.unusedSimpArgs false
open Go.RowKit

/-- Small numbers as words. -/
def NU (S : List Nat) : List (BitVec 64) := S.map (BitVec.ofNat 64)
@[simp] theorem NU_length {S : List Nat} : (NU S).length = S.length := by simp [NU]
theorem NU_get {S : List Nat} {i : Nat} (h : i < (NU S).length) : (NU S)[i] = BitVec.ofNat 64 (S[i]'(by simpa using h)) := by simp [NU]
theorem small_u64 {x : Nat} (h : x ≤ 17) : ((BitVec.ofNat 64 x).toNat : Int) = (x : Int) := by
  rw [BitVec.toNat_ofNat, Nat.mod_eq_of_lt (by omega)]

/-- The beginning of a row of the call's own. -/
theorem Owns.cut {w : World} {B : Nat} {p q : List Row} {e : TypeId} {b n c m : Nat} {xs : List Value} (h : Owns w B (p ++ ⟨e, some ⟨b, 0, none⟩, n, c, xs⟩ :: q)) (hm : m ≤ n) : Owns w B (p ++ ⟨e, some ⟨b, 0, none⟩, m, c, xs.take m⟩ :: q) := by
  have hr := h.1 ⟨e, some ⟨b, 0, none⟩, n, c, xs⟩ (by simp)
  have hn : w.ownsRow B e 1 (.slice (some ⟨b, 0, none⟩) m c) m (xs.take m) := by
    obtain ⟨h1, h2⟩ := hr
    refine ⟨by simp at h1 ⊢; omega, ?_⟩
    rcases h2 with ⟨hv, _⟩ | ⟨g, cap, cur, hv, hB, hg, hnc, hcm, hcs, htake⟩
    · simp [Row.val] at hv
    · simp only [Row.val, Value.slice.injEq, true_and] at hv
      obtain ⟨hv1, hv2⟩ := hv
      subst hv2
      have hnc' : n ≤ c := hnc
      refine .inr ⟨g, c, cur, by rw [hv1], hB, hg, by omega, hcm, hcs, ?_⟩
      simp only [Nat.mul_one] at htake ⊢
      have e1 := congrArg (List.take m) htake
      rw [List.take_take, Nat.min_eq_left hm] at e1
      exact e1
  exact Owns.turn (r' := ⟨e, some ⟨b, 0, none⟩, m, c, xs.take m⟩) h hn (World.grownBy.refl _ _) (.inr (.inl rfl))

theorem slice_keep {P : Program} {t e : TypeId} (ht : P.underlying t = some (.slice e)) (hz : ∀ w : World, (sizeOf e).run P w = .ok 1 w) (b n c hi : Nat) (h2 : hi ≤ c) (w : World) :
    (Instr.slice t (.slice (some ⟨b, 0, none⟩) n c) none (some (.int .i64 (hi : Int))) none).run P w = .ok (.slice (some ⟨b, 0, none⟩) hi c) w := by
  have he : P.elem t = e := by simp [Program.elem, ht]
  rw [run_slice_h (P := P) w t _ n c (by rw [he]; exact ht) .i64 (hi : Int) (by omega) (by omega), he, hz]
  simp only [Result.andThen_ok, sliced, Int.toNat_natCast, Nat.mul_one, Nat.sub_zero]
  split <;> simp [Addr.add_lit]
theorem NU_take {S : List Nat} {m : Nat} : (U (NU S)).take m = U (NU (S.take m)) := by simp [U, NU, List.map_take]

set_option maxHeartbeats 6400000 in
set_option maxRecDepth 100000 in
theorem fnStack_any (w : World) (a0 : Option Addr) (n0 c0 : Nat) (x0 : List (BitVec 8)) (k0 : Came w a0 n0 c0 (U8 x0)) (bd0 : n0 * 1 ≤ 140737488351232) :
    Calls Try.prog 4 #[.slice a0 n0 c0] w fun e w' => e = .returned (.bool true) ∧ Below w.heap.size w w' := by
  obtain ⟨i0, hi, hz0, hz1, hz2⟩ := info_parts info30
  have K0 := Lib.hid k0.u8
  clear k0
  have hnot : ∀ (x : Bool) (w : World), (Op.unary .not (.bool x)).run Try.prog w = .ok (.bool (!x)) w := fun _ _ => rfl
  have O0 := Lib.hid (Owns.nil w w.heap.size)
  go_enter Try.func4, Try.ntmps4
  go_wp2_with (at_make; refine wpList_make_full _ rfl _ _ 23 rfl w.heap.size 22 i0 (.int .u64 0) 1 Try.underlying23 hi hz0 hz1 .i64 .i64 _ _ 17 rfl rfl rfl rfl (by rw [hz2]; decide) (by simp only [maxLen]; omega) (Nat.le_refl _) ?_)
  intro w1 ho1 hg1
  rw [made_u64] at ho1
  have hbl := (Below.refl w.heap.size w).grown hg1 (Nat.le_refl _) (by simp)
  have hoA : Owns w1 w.heap.size [⟨22, some ⟨w.heap.size, 0, none⟩, 17, 17, U (List.replicate 17 0)⟩] := ⟨by intro r hr; simp at hr; subst hr; exact ho1, by simp⟩
  have O1 := Lib.hid (hoA.made hbl.size 22 #[] (by simp))
  have B1 := Lib.hid (hbl.alloc hbl.size (.cells #[] 22))
  clear ho1 hg1 hoA hbl O0 hi hz0 hz1 hz2
  go_wp2
  go_loopw [37, 3, 4, 5] (fun i v s f wr => ∃ (k : Nat) (e0 e1 : Option Addr) (g0 g1 : Nat) (st : List (BitVec 64)) (S : List Nat) (free : Nat), k ≤ n0 ∧ Stacked st S free ∧ i = .int .i64 k ∧ v = .slice e0 17 g0 ∧ s = .slice e1 S.length g1 ∧ f = .int .u64 (free : Int) ∧ Owns wr w.heap.size [⟨22, e0, 17, g0, U st⟩, ⟨22, e1, S.length, g1, U (NU S)⟩] ∧ Below w.heap.size w wr) (fun i _ _ _ _ => n0 - (intOf i).toNat)
  case atStart => exact ⟨0, _, _, _, _, List.replicate 17 0, [], 1, Nat.zero_le _, Stacked.first, rfl, rfl, rfl, rfl, by simpa [NU] using O1.out, B1.out⟩
  case round =>
    clear O1 B1
    obtain ⟨k, e0, e1, g0, g1, st, S, free, hk, hst, rfl, rfl, rfl, rfl, ho, hb⟩ := hrel
    have hsz := hb.size
    have hl17 := hst.len; have hle := hst.le; have h1f := hst.one; have hsh := hst.short
    obtain ⟨T, hT⟩ : ∃ T, (0 :: S).getD S.length 0 = T := ⟨_, rfl⟩
    have htop := hst.top
    rw [hT] at htop
    have bT : T ≤ 17 ∧ (T = 0 ↔ S = []) := by
      cases hS : S with
      | nil => rw [hS] at hT; simp at hT; exact ⟨by omega, by simp; omega⟩
      | cons y l =>
        have hm : T ∈ S := by rw [← hT, hS]; simp
        have := hst.lt T hm
        simp
        omega
    obtain ⟨bT, hT0⟩ := bT
    have uT := small_u64 bT
    obtain ⟨tv, htv⟩ : ∃ tv, BitVec.ofNat 64 T = tv := ⟨_, rfl⟩
    rw [htv] at htop uT
    obtain ⟨w1, rfl⟩ : ∃ w1 : World, w1 = wr := ⟨_, rfl⟩
    have HST := Lib.hid hst
    obtain ⟨M, hM⟩ : ∃ M, S.length = M := ⟨_, rfl⟩
    by_cases hlt : k < n0
    · have lx : k < x0.length := by rw [K0.out.2.1]; exact hlt
      obtain ⟨ba, oa, rfl, q0⟩ := at_u8 K0.out.1 hb (Nat.le_refl _) lx
      obtain ⟨x, hx⟩ : ∃ x, x0[k] = x := ⟨_, rfl⟩
      rw [hx] at q0
      have bx := x.isLt
      obtain ⟨m, hm0⟩ : ∃ m, x.toNat % 3 = m := ⟨_, rfl⟩
      have hm : (x.toNat : Int) % 3 = (m : Int) := by rw [← hm0]; simp
      have O1 := Lib.hid ho; have B1 := Lib.hid hb; have hz1 := hsz
      have HTOP := Lib.hid htop
      clear ho hb hsz hx hm0 htop hst
      go_wp2_with fail
      refine (call_any w1 e0 g0 17 st 0#8 0 0 0 rfl rfl rfl rfl hl17 (O1.out.rdAt 0 rfl) (fun h => ((O1.out.cap 0 rfl).2.2 h).2) (by omega) (by omega) tv st (by rw [Call.step0 _ _ rfl, HTOP.out]) (by rw [Call.step0 _ _ rfl]; exact set_same)).mono ?_
      rintro e w2 ⟨e2, g2, rfl, ho, hb⟩
      have O2 := Lib.hid (O1.out.more hb ho hz1); have B2 := Lib.hid (Below.more B1.out hb hz1)
      have hz2 : w.heap.size ≤ w2.heap.size := B2.out.size
      clear ho hb O1 B1 hz1
      rw [uT]
      have O3 : Hid (Owns w2 w.heap.size [⟨22, e2, 17, g2, U st⟩, ⟨22, e1, S.length, g1, U (NU S)⟩]) := Lib.hid ((O2.out.drop (L' := [⟨22, e1, S.length, g1, U (NU S)⟩, ⟨22, e2, 17, g2, U st⟩]) (by repeat (first | exact List.nil_sublist _ | apply List.Sublist.cons_cons | apply List.Sublist.cons))).perm (List.Perm.swap _ _ _))
      have hcp := (O3.out.cap 1 rfl).1
      rw [hM] at O3 hcp hsh hT ⊢
      have HM := Lib.hid hM
      clear O2 hM
      by_cases hM0 : M = 0
      · have hTz : T = 0 := hT0.2 (List.eq_nil_of_length_eq_zero (by rw [HM.out, hM0]))
        have tT : ((T : Int) != 0) = false := by rw [hTz]; rfl
        have tM : ¬ ((0 : Int) < (M : Int)) := by omega
        have HM0 := Lib.hid hM0; have HTZ := Lib.hid hTz
        have tT2 : ¬ ((0 : Int) < (T : Int)) := by omega
        clear hM0 hTz hT0
        by_cases hpush : 0 < m ∧ free ≤ 16
        · obtain ⟨hm1, hf16⟩ := hpush
          have HP := Lib.hid (HST.out.push hf16)
          rw [HM.out, hT, htv] at HP
          have uF := small_u64 hle
          obtain ⟨fv, hfv⟩ : ∃ fv, BitVec.ofNat 64 free = fv := ⟨_, rfl⟩
          rw [hfv] at uF HP
          have HFV := Lib.hid hfv
          clear hfv hT
          go_wp2_with fail
          refine (call_any w2 e2 g2 17 st 1#8 free tv 0 rfl rfl (by rw [uT]) rfl hl17 (O3.out.rdAt 0 rfl) (fun h => ((O3.out.cap 0 rfl).2.2 h).2) (by omega) (by omega) 0 (st.set free tv) (by rw [Call.step1 _ _ rfl]) (by rw [Call.step1 _ _ rfl])).mono ?_
          rintro e w3 ⟨e3, g3, rfl, ho, hb⟩
          have O4 := Lib.hid (O3.out.more hb ho hz2); have B3 := Lib.hid (Below.more B2.out hb hz2)
          have hz3 : w.heap.size ≤ w3.heap.size := B3.out.size
          clear ho hb O3 B2 hz2
          go_wp2_with fail
          refine (call_any w3 e3 g3 17 (st.set free tv) 4#8 0 tv fv rfl rfl (by rw [uT]) (by rw [uF]) (by rw [List.length_set, hl17]) (O4.out.rdAt 2 rfl) (fun h => ((O4.out.cap 2 rfl).2.2 h).2) (by omega) (by omega) 1 ((st.set free tv).set 0 fv) (by rw [getD_set_other (by omega), HTOP.out, Call.step4 _ _ rfl, if_pos rfl]) (by rw [getD_set_other (by omega), HTOP.out, Call.step4 _ _ rfl, if_pos rfl])).mono ?_
          rintro e w4 ⟨e4, g4, rfl, ho, hb⟩
          have O5 := Lib.hid ((O4.out.more hb ho hz3).drop (L' := [⟨22, e1, M, g1, U (NU S)⟩, ⟨22, e4, 17, g4, U ((st.set free tv).set 0 fv)⟩]) (by repeat (first | exact List.nil_sublist _ | apply List.Sublist.cons_cons | apply List.Sublist.cons))); have B4 := Lib.hid (Below.more B3.out hb hz3)
          have hz4 : w.heap.size ≤ w4.heap.size := B4.out.size
          clear ho hb O4 B3 hz3
          go_wp2_with (at_builtin; refine app30s [] [_] (.tmp 98) (.tmp 100) rfl rfl w4.heap.size rfl rfl rfl O5.out rfl (by omega) (by omega) ?_)
          intro e5 g5 w5 ho5 hb5 hs5
          have HR : Hid (Owns w5 w.heap.size [⟨22, e4, 17, g4, U ((st.set free tv).set 0 fv)⟩, ⟨22, e5, (S ++ [free]).length, g5, U (NU (S ++ [free]))⟩]) := by
            refine Lib.hid ?_
            have h1 := ho5.perm (List.Perm.swap _ _ _)
            rw [show NU (S ++ [free]) = NU S ++ [fv] by simp [NU, HFV.out], U_snoc, uF, List.length_append, HM.out]
            exact h1
          have HB := Lib.hid (B4.out.trans hb5)
          have HLN : Hid ((S ++ [free]).length = M + 1) := by show _ = _; rw [List.length_append, HM.out]; rfl
          clear ho5 hb5 O5 B4
          go_wp2
          go_roundw
          case rel => exact ⟨k + 1, e4, e5, g4, g5, _, S ++ [free], free + 1, by omega, HP.out, by go_num, rfl, by rw [HLN.out], by go_num, HR.out, HB.out⟩
          case measure => simp [intOf] <;> omega
        · have hp1 : 0 < m → 16 < free := by omega
          have HR : Hid (Owns w2 w.heap.size [⟨22, e2, 17, g2, U st⟩, ⟨22, e1, S.length, g1, U (NU S)⟩]) := by refine Lib.hid ?_; rw [HM.out]; exact O3.out
          clear O3 hT
          by_cases hm0 : 0 < m
          · have tf : ¬ ((free : Int) ≤ 16) := by have := hp1 hm0; omega
            clear hp1 hpush
            go_wp2
            go_roundw
            case rel => exact ⟨k + 1, e2, e1, g2, g1, st, S, free, by omega, HST.out, by go_num, rfl, by rw [HM.out], rfl, HR.out, B2.out⟩
            case measure => simp [intOf] <;> omega
          · have tf : ¬ ((0 : Int) < (m : Int)) := by omega
            clear hp1 hpush
            go_wp2
            go_roundw
            case rel => exact ⟨k + 1, e2, e1, g2, g1, st, S, free, by omega, HST.out, by go_num, rfl, by rw [HM.out], rfl, HR.out, B2.out⟩
            case measure => simp [intOf] <;> omega
      · have lM : M - 1 < (NU S).length := by rw [NU_length, HM.out]; omega
        obtain ⟨b1, rfl⟩ := O3.out.addr 1 rfl (k := M - 1) (by simpa using lM)
        have q1 := O3.out.get64 1 rfl lM
        rw [NU_get] at q1
        have eT : S[M - 1]'(by simpa using lM) = T := by
          have hl := HM.out
          obtain ⟨j, hj⟩ : ∃ j, M = j + 1 := ⟨M - 1, by omega⟩
          subst hj
          rw [← hT]
          simp [show j < S.length by omega]
        rw [eT, htv, uT] at q1
        have cM : ((M : Int) - 1).toNat = M - 1 := by omega
        have tT : ((T : Int) != (T : Int)) = false := by simp
        have hTp : 0 < T := by
          have : ¬ T = 0 := fun h => by have := hT0.1 h; rw [this] at HM; have := HM.out; simp at this; omega
          omega
        clear eT
        by_cases hpush : 0 < m ∧ free ≤ 16
        · obtain ⟨hm1, hf16⟩ := hpush
          have HP := Lib.hid (HST.out.push hf16)
          rw [HM.out, hT, htv] at HP
          have uF := small_u64 hle
          obtain ⟨fv, hfv⟩ : ∃ fv, BitVec.ofNat 64 free = fv := ⟨_, rfl⟩
          rw [hfv] at uF HP
          have HFV := Lib.hid hfv
          clear hfv hT
          go_wp2_with fail
          refine (call_any w2 e2 g2 17 st 1#8 free tv 0 rfl rfl (by rw [uT]) rfl hl17 (O3.out.rdAt 0 rfl) (fun h => ((O3.out.cap 0 rfl).2.2 h).2) (by omega) (by omega) 0 (st.set free tv) (by rw [Call.step1 _ _ rfl]) (by rw [Call.step1 _ _ rfl])).mono ?_
          rintro e w3 ⟨e3, g3, rfl, ho, hb⟩
          have O4 := Lib.hid (O3.out.more hb ho hz2); have B3 := Lib.hid (Below.more B2.out hb hz2)
          have hz3 : w.heap.size ≤ w3.heap.size := B3.out.size
          clear ho hb O3 B2 hz2
          go_wp2_with fail
          refine (call_any w3 e3 g3 17 (st.set free tv) 4#8 0 tv fv rfl rfl (by rw [uT]) (by rw [uF]) (by rw [List.length_set, hl17]) (O4.out.rdAt 2 rfl) (fun h => ((O4.out.cap 2 rfl).2.2 h).2) (by omega) (by omega) 1 ((st.set free tv).set 0 fv) (by rw [getD_set_other (by omega), HTOP.out, Call.step4 _ _ rfl, if_pos rfl]) (by rw [getD_set_other (by omega), HTOP.out, Call.step4 _ _ rfl, if_pos rfl])).mono ?_
          rintro e w4 ⟨e4, g4, rfl, ho, hb⟩
          have O5 := Lib.hid ((O4.out.more hb ho hz3).drop (L' := [⟨22, some ⟨b1, 0, none⟩, M, g1, U (NU S)⟩, ⟨22, e4, 17, g4, U ((st.set free tv).set 0 fv)⟩]) (by repeat (first | exact List.nil_sublist _ | apply List.Sublist.cons_cons | apply List.Sublist.cons))); have B4 := Lib.hid (Below.more B3.out hb hz3)
          have hz4 : w.heap.size ≤ w4.heap.size := B4.out.size
          clear ho hb O4 B3 hz3
          go_wp2_with (at_builtin; refine app30s [] [_] (.tmp 98) (.tmp 100) rfl rfl w4.heap.size rfl rfl rfl O5.out rfl (by omega) (by omega) ?_)
          intro e5 g5 w5 ho5 hb5 hs5
          have HR : Hid (Owns w5 w.heap.size [⟨22, e4, 17, g4, U ((st.set free tv).set 0 fv)⟩, ⟨22, e5, (S ++ [free]).length, g5, U (NU (S ++ [free]))⟩]) := by
            refine Lib.hid ?_
            have h1 := ho5.perm (List.Perm.swap _ _ _)
            rw [show NU (S ++ [free]) = NU S ++ [fv] by simp [NU, HFV.out], U_snoc, uF, List.length_append, HM.out]
            exact h1
          have HB := Lib.hid (B4.out.trans hb5)
          have HLN : Hid ((S ++ [free]).length = M + 1) := by show _ = _; rw [List.length_append, HM.out]; rfl
          clear ho5 hb5 O5 B4
          go_wp2
          go_roundw
          case rel => exact ⟨k + 1, e4, e5, g4, g5, _, S ++ [free], free + 1, by omega, HP.out, by go_num, rfl, by rw [HLN.out], by go_num, HR.out, HB.out⟩
          case measure => simp [intOf] <;> omega
        · have hp1 : 0 < m → 16 < free := by omega
          have hi1 : S.length = (M - 1) + 1 := by rw [HM.out]; omega
          have HDN := Lib.hid (HST.out.down hi1)
          have hbel := HST.out.below (M - 1) (by rw [HM.out]; omega)
          rw [show M - 1 + 1 = M by omega, hT] at hbel
          obtain ⟨V, hV⟩ : ∃ V, (0 :: S).getD (M - 1) 0 = V := ⟨_, rfl⟩
          have bV : V ≤ 17 := by
            rw [← hV]
            by_cases hm1 : M - 1 = 0
            · rw [hm1]; simp
            · obtain ⟨j, hj⟩ : ∃ j, M - 1 = j + 1 := ⟨M - 2, by omega⟩
              rw [hj]
              have hm : (0 :: S).getD (j + 1) 0 ∈ S := by simp [show j < S.length by omega]
              have := HST.out.lt _ hm
              omega
          rw [hV] at hbel HDN
          have uV := small_u64 bV
          obtain ⟨vv, hvv⟩ : ∃ vv, BitVec.ofNat 64 V = vv := ⟨_, rfl⟩
          rw [hvv] at hbel HDN uV
          have HBEL := Lib.hid hbel
          have HTK : Hid ((S.take (M - 1)).length = M - 1) := by show _ = _; rw [List.length_take, HM.out]; omega
          have hsl := fun w => slice_keep Try.underlying23 (fun _ => by kernel_rfl) b1 M g1 (M - 1) (by omega) w
          rw [show ((M - 1 : Nat) : Int) = (M : Int) - 1 by omega] at hsl
          have bT17 : T < 17 := by
            have hm : (0 :: S).getD M 0 ∈ S := by
              obtain ⟨j, hj⟩ : ∃ j, M = j + 1 := ⟨M - 1, by omega⟩
              rw [hj]
              simp [show j < S.length by rw [HM.out]; omega]
            have := HST.out.lt _ hm
            rw [hT] at this
            omega
          clear hT hbel hV hvv hi1 hT0
          have hmf : (¬ ((0 : Int) < (m : Int))) ∨ ((0 : Int) < (m : Int) ∧ ¬ ((free : Int) ≤ 16)) := by omega
          clear hp1 hpush
          rcases hmf with hmf | ⟨hmf, hmg⟩
          ·
            go_wp2_with fail
            refine (call_any w2 e2 g2 17 st 0#8 T 0 0 rfl rfl rfl rfl hl17 (O3.out.rdAt 0 rfl) (fun h => ((O3.out.cap 0 rfl).2.2 h).2) (by omega) (by omega) vv st (by rw [Call.step0 _ _ rfl, HBEL.out]) (by rw [Call.step0 _ _ rfl]; exact set_same)).mono ?_
            rintro e w3 ⟨e3, g3, rfl, ho, hb⟩
            have O4 := Lib.hid (O3.out.more hb ho hz2); have B3 := Lib.hid (Below.more B2.out hb hz2)
            have hz3 : w.heap.size ≤ w3.heap.size := B3.out.size
            clear ho hb O3 B2 hz2 q1
            rw [uV]
            go_wp2_with fail
            refine (call_any w3 e3 g3 17 st 4#8 0 tv vv rfl rfl (by rw [uT]) (by rw [uV]) hl17 (O4.out.rdAt 2 rfl) (fun h => ((O4.out.cap 2 rfl).2.2 h).2) (by omega) (by omega) 1 (st.set 0 vv) (by rw [HTOP.out, Call.step4 _ _ rfl, if_pos rfl]) (by rw [HTOP.out, Call.step4 _ _ rfl, if_pos rfl])).mono ?_
            rintro e w4 ⟨e4, g4, rfl, ho, hb⟩
            have O5 := Lib.hid ((O4.out.more hb ho hz3).drop (L' := [⟨22, some ⟨b1, 0, none⟩, M, g1, U (NU S)⟩, ⟨22, e4, 17, g4, U (st.set 0 vv)⟩]) (by repeat (first | exact List.nil_sublist _ | apply List.Sublist.cons_cons | apply List.Sublist.cons))); have B4 := Lib.hid (Below.more B3.out hb hz3)
            have HR : Hid (Owns w4 w.heap.size [⟨22, e4, 17, g4, U (st.set 0 vv)⟩, ⟨22, some ⟨b1, 0, none⟩, (S.take (M - 1)).length, g1, U (NU (S.take (M - 1)))⟩]) := by
              refine Lib.hid ?_
              rw [HTK.out, ← NU_take]
              exact (Owns.cut (p := []) (m := M - 1) O5.out (by omega)).perm (List.Perm.swap _ _ _)
            clear ho hb O4 B3 hz3 O5
            go_wp2
            go_roundw
            case rel => exact ⟨k + 1, e4, some ⟨b1, 0, none⟩, g4, g1, _, S.take (M - 1), free, by omega, HDN.out, by go_num, rfl, by rw [HTK.out], rfl, HR.out, B4.out⟩
            case measure => simp [intOf] <;> omega
          ·
            go_wp2_with fail
            refine (call_any w2 e2 g2 17 st 0#8 T 0 0 rfl rfl rfl rfl hl17 (O3.out.rdAt 0 rfl) (fun h => ((O3.out.cap 0 rfl).2.2 h).2) (by omega) (by omega) vv st (by rw [Call.step0 _ _ rfl, HBEL.out]) (by rw [Call.step0 _ _ rfl]; exact set_same)).mono ?_
            rintro e w3 ⟨e3, g3, rfl, ho, hb⟩
            have O4 := Lib.hid (O3.out.more hb ho hz2); have B3 := Lib.hid (Below.more B2.out hb hz2)
            have hz3 : w.heap.size ≤ w3.heap.size := B3.out.size
            clear ho hb O3 B2 hz2 q1
            rw [uV]
            go_wp2_with fail
            refine (call_any w3 e3 g3 17 st 4#8 0 tv vv rfl rfl (by rw [uT]) (by rw [uV]) hl17 (O4.out.rdAt 2 rfl) (fun h => ((O4.out.cap 2 rfl).2.2 h).2) (by omega) (by omega) 1 (st.set 0 vv) (by rw [HTOP.out, Call.step4 _ _ rfl, if_pos rfl]) (by rw [HTOP.out, Call.step4 _ _ rfl, if_pos rfl])).mono ?_
            rintro e w4 ⟨e4, g4, rfl, ho, hb⟩
            have O5 := Lib.hid ((O4.out.more hb ho hz3).drop (L' := [⟨22, some ⟨b1, 0, none⟩, M, g1, U (NU S)⟩, ⟨22, e4, 17, g4, U (st.set 0 vv)⟩]) (by repeat (first | exact List.nil_sublist _ | apply List.Sublist.cons_cons | apply List.Sublist.cons))); have B4 := Lib.hid (Below.more B3.out hb hz3)
            have HR : Hid (Owns w4 w.heap.size [⟨22, e4, 17, g4, U (st.set 0 vv)⟩, ⟨22, some ⟨b1, 0, none⟩, (S.take (M - 1)).length, g1, U (NU (S.take (M - 1)))⟩]) := by
              refine Lib.hid ?_
              rw [HTK.out, ← NU_take]
              exact (Owns.cut (p := []) (m := M - 1) O5.out (by omega)).perm (List.Perm.swap _ _ _)
            clear ho hb O4 B3 hz3 O5
            go_wp2
            go_roundw
            case rel => exact ⟨k + 1, e4, some ⟨b1, 0, none⟩, g4, g1, _, S.take (M - 1), free, by omega, HDN.out, by go_num, rfl, by rw [HTK.out], rfl, HR.out, B4.out⟩
            case measure => simp [intOf] <;> omega
    · have HO := Lib.hid ho; have HB := Lib.hid hb
      clear ho hb hsz hT htop uT htv hT0 bT hst hsh hl17
      rw [hM] at HO ⊢
      have HM := Lib.hid hM
      have bM : M ≤ 17 := by have := HST.out.short; omega
      clear hM
      go_wp2
      go_loopw [22, 3] (fun i v wr => ∃ (j : Nat) (e0 : Option Addr) (g0 : Nat) (st : List (BitVec 64)), j ≤ M ∧ i = .int .i64 ((j : Int) - 1) ∧ v = .slice e0 17 g0 ∧ Stacked st (S.take j) free ∧ Owns wr w.heap.size [⟨22, e0, 17, g0, U st⟩, ⟨22, e1, M, g1, U (NU S)⟩] ∧ Below w.heap.size w wr) (fun i _ _ => ((intOf i) + 1).toNat)
      case atStart => exact ⟨M, e0, g0, st, Nat.le_refl _, rfl, rfl, by rw [List.take_of_length_le (by rw [HM.out]; omega)]; exact HST.out, HO.out, HB.out⟩
      case round =>
        clear HO HB HST
        obtain ⟨j, e0, g0, st, hj, rfl, rfl, hst, ho, hb⟩ := hrel
        have hsz := hb.size
        have hl17 := hst.len
        have HST := Lib.hid hst
        obtain ⟨w1, rfl⟩ : ∃ w1 : World, w1 = wr := ⟨_, rfl⟩
        cases j with
        | zero =>
          have htop := hst.top
          simp only [List.take_zero, List.length_nil, List.getD_cons_zero] at htop
          have HTOP := Lib.hid htop
          have O1 := Lib.hid ho; have B1 := Lib.hid hb; have hz1 := hsz
          clear ho hb hsz htop hst
          go_wp2_with fail
          refine (call_any w1 e0 g0 17 st 0#8 0 0 0 rfl rfl rfl rfl hl17 (O1.out.rdAt 0 rfl) (fun h => ((O1.out.cap 0 rfl).2.2 h).2) (by omega) (by omega) 0 st (by rw [Call.step0 _ _ rfl, HTOP.out]; rfl) (by rw [Call.step0 _ _ rfl]; exact set_same)).mono ?_
          rintro e w2 ⟨e2, g2, rfl, ho, hb⟩
          have O2 := Lib.hid (O1.out.more hb ho hz1); have B2 := Lib.hid (Below.more B1.out hb hz1)
          have hz2 : w.heap.size ≤ w2.heap.size := B2.out.size
          clear ho hb O1 B1 hz1
          go_wp2
          go_ret
          exact ⟨rfl, B2.out⟩
        | succ j =>
          have lS : j < S.length := by rw [HM.out]; omega
          have lT : (S.take (j + 1)).length = j + 1 := by rw [List.length_take]; omega
          have htop := hst.top
          have HDN := Lib.hid (hst.down lT)
          have hbel := hst.below j (by omega)
          have eT : (0 :: S.take (j + 1)).getD (j + 1) 0 = S[j] := by simp [List.getElem?_take, lS]
          rw [lT] at htop
          rw [eT] at htop hbel
          have bT := hst.lt S[j] (by rw [List.mem_take_iff_getElem]; exact ⟨j, by omega, rfl⟩)
          have hle := hst.le
          obtain ⟨T, hT⟩ : ∃ T, S[j] = T := ⟨_, rfl⟩
          rw [hT] at htop hbel bT
          obtain ⟨V, hV⟩ : ∃ V, (0 :: S.take (j + 1)).getD j 0 = V := ⟨_, rfl⟩
          have bV : V ≤ 17 := by
            rw [← hV]
            cases j with
            | zero => simp
            | succ i =>
              have hm : (0 :: S.take (i + 1 + 1)).getD (i + 1) 0 ∈ S.take (i + 1 + 1) := by
                have : i < (S.take (i + 1 + 1)).length := by omega
                simp only [List.getD_cons_succ]
                rw [List.getD_eq_getElem?_getD, List.getElem?_eq_getElem this]
                exact List.getElem_mem _
              have := hst.lt _ hm
              omega
          rw [hV] at hbel HDN
          rw [List.take_take, Nat.min_eq_left (by omega)] at HDN
          have uT := small_u64 (show T ≤ 17 by omega)
          have uV := small_u64 bV
          obtain ⟨tv, htv⟩ : ∃ tv, BitVec.ofNat 64 T = tv := ⟨_, rfl⟩
          obtain ⟨vv, hvv⟩ : ∃ vv, BitVec.ofNat 64 V = vv := ⟨_, rfl⟩
          rw [htv] at htop uT
          rw [hvv] at hbel HDN uV
          have HTOP := Lib.hid htop; have HBEL := Lib.hid hbel
          have lN : j < (NU S).length := by simpa using lS
          obtain ⟨b1, rfl⟩ := ho.addr 1 rfl (k := j) (by simpa using lN)
          have HQ1 : Hid (∀ v : World, Owns v w.heap.size [⟨22, e0, 17, g0, U st⟩, ⟨22, some ⟨b1, 0, none⟩, M, g1, U (NU S)⟩] → v.cell? ⟨b1, j, none⟩ = some (.int .u64 (T : Int))) := by
            refine Lib.hid fun v hv => ?_
            have q := hv.get64 1 rfl lN
            rw [NU_get, hT, htv, uT] at q
            exact q
          have O1 := Lib.hid ho; have B1 := Lib.hid hb; have hz1 := hsz
          have e1 : (((j + 1 : Nat) : Int) - 1) = (j : Int) := by omega
          rw [e1]
          have tT : ((T : Int) != (T : Int)) = false := by simp
          clear ho hb hsz htop hst hbel hT hV htv hvv eT e1
          go_wp2_with fail
          refine (call_any w1 e0 g0 17 st 0#8 0 0 0 rfl rfl rfl rfl hl17 (O1.out.rdAt 0 rfl) (fun h => ((O1.out.cap 0 rfl).2.2 h).2) (by omega) (by omega) tv st (by rw [Call.step0 _ _ rfl, HTOP.out]) (by rw [Call.step0 _ _ rfl]; exact set_same)).mono ?_
          rintro e w2 ⟨e2, g2, rfl, ho, hb⟩
          have O2 := Lib.hid (O1.out.more hb ho hz1); have B2 := Lib.hid (Below.more B1.out hb hz1)
          have hz2 : w.heap.size ≤ w2.heap.size := B2.out.size
          clear ho hb O1 B1 hz1
          rw [uT]
          have q1 := HQ1.out w2 (O2.out.drop (by repeat (first | exact List.nil_sublist _ | apply List.Sublist.cons_cons | apply List.Sublist.cons)))
          go_wp2_with fail
          refine (call_any w2 e2 g2 17 st 0#8 T 0 0 rfl rfl rfl rfl hl17 (O2.out.rdAt 2 rfl) (fun h => ((O2.out.cap 2 rfl).2.2 h).2) (by omega) (by omega) vv st (by rw [Call.step0 _ _ rfl, HBEL.out]) (by rw [Call.step0 _ _ rfl]; exact set_same)).mono ?_
          rintro e w3 ⟨e3, g3, rfl, ho, hb⟩
          have O3 := Lib.hid (O2.out.more hb ho hz2); have B3 := Lib.hid (Below.more B2.out hb hz2)
          have hz3 : w.heap.size ≤ w3.heap.size := B3.out.size
          clear ho hb O2 B2 hz2
          clear q1
          rw [uV]
          go_wp2_with fail
          refine (call_any w3 e2 g2 17 st 3#8 0 vv 0 rfl rfl (by rw [uV]) rfl hl17 (O3.out.rdAt 2 rfl) (fun h => ((O3.out.cap 2 rfl).2.2 h).2) (by omega) (by omega) tv (st.set 0 vv) (by rw [HTOP.out, Call.step3 _ _ rfl]) (by rw [HTOP.out, Call.step3 _ _ rfl])).mono ?_
          rintro e w4 ⟨e4, g4, rfl, ho, hb⟩
          have O4 := Lib.hid (((O3.out.more hb ho hz3).drop (L' := [⟨22, some ⟨b1, 0, none⟩, M, g1, U (NU S)⟩, ⟨22, e4, 17, g4, U (st.set 0 vv)⟩]) (by repeat (first | exact List.nil_sublist _ | apply List.Sublist.cons_cons | apply List.Sublist.cons))).perm (List.Perm.swap _ _ _)); have B4 := Lib.hid (Below.more B3.out hb hz3)
          clear ho hb O3 B3 hz3
          go_wp2
          go_roundw
          case rel => exact ⟨j, e4, g4, _, by omega, by go_num, rfl, HDN.out, O4.out, B4.out⟩
          case measure => simp [intOf] <;> omega
end Go.Proofs.Ytjjmjjbeecmmlac
