/-
  The contract of oWalk: the nodes that a call of a node runs, by induction.
-/
import Derived.Test.YtjjmjjbeecmmladTreeMore
namespace Go.Proofs.Ytjjmjjbeecmmlad
set_option linter.unusedVariables false
set_option linter.unusedSimpArgs false
open Go.RowKit

/-- The nodes run by the first k that node i calls. -/
def partWalk (ps : Nat → List Nat) (f i k : Nat) (s : List Nat × List (BitVec 64)) : List Nat × List (BitVec 64) := ((ps i).take k).foldl (fun s p => runF ps f p s) (s.1, s.2.set i (s.2.getD i 0 + 1))

/-- Rows in which the parents lie, whatever lies behind them. -/
def Holds (B N : Nat) (ps : Nat → List Nat) (a0 : Option Addr) (Y : List Row) : Prop :=
  ∀ i, i < N → ∃ b o pa pc, a0 = some ⟨b, o, none⟩ ∧ ∀ (w : World) (r : Row), Owns w B (Y ++ [r]) → w.cell? ⟨b, o + i, none⟩ = some (.slice pa (ps i).length pc) ∧ Rd w pa (NI (ps i))
theorem holds_inner {B N c0 : Nat} {ps : Nat → List Nat} {a0 : Option Addr} {R X : List Row} (hi : Inner ps R N) {w0 : World} (h0 : Owns w0 B ((⟨28, a0, N, c0, R.map Row.val⟩ :: R) ++ X)) : Holds B N ps a0 ((⟨28, a0, N, c0, R.map Row.val⟩ :: R) ++ X) := by
  intro i hiN
  obtain ⟨hl, hR⟩ := hi
  have li : i < R.length := by omega
  obtain ⟨he, hn, hx⟩ := hR i li
  obtain ⟨b, rfl, _⟩ := h0.cellAt 0 rfl (j := i) (by simpa using li)
  refine ⟨b, 0, R[i].a, R[i].c, rfl, fun w r ho => ⟨?_, ?_⟩⟩
  · obtain ⟨b', hb, hc, _⟩ := ho.cellAt 0 rfl (j := i) (by simpa using li)
    simp only [Option.some.injEq, Addr.mk.injEq, and_true] at hb
    subst hb
    rw [Nat.zero_add, hc]
    simp [li, Row.val, hn]
  · rw [← hx]
    exact (ho.rd (r := R[i]) (by simp)).1

def Walked (w : World) (B : Nat) (Y : List Row) (L : List Nat) (e : Ending) (w' : World) : Prop :=
  ∃ a' c', e = .returned (.slice a' L.length c') ∧ Owns w' B (Y ++ [⟨3, a', L.length, c', NI L⟩]) ∧ Below B w w'

set_option maxHeartbeats 1600000 in
set_option maxRecDepth 100000 in
theorem oWalk_any (B N : Nat) (links : List (BitVec 8)) (a0 : Option Addr) (c0 : Nat) (Y : List Row) (hY : Holds B N (parOf links) a0 Y) (bN : N ≤ 1048576) : ∀ (f i : Nat), i < f → i < N → ∀ (w : World) (s : List Nat × List (BitVec 64)) (la : Option Addr) (lc : Nat), Fine N s → Owns w B (Y ++ [⟨3, la, s.1.length, lc, NI s.1⟩]) → B ≤ w.heap.size →
    Calls Try.prog 17 #[.slice a0 N c0, .int .i64 (i : Int), .slice la s.1.length lc] w (Walked w B Y (runF (parOf links) f i s).1) := by
  intro f
  induction f with
  | zero => intro i h; omega
  | succ f ih =>
    intro i hif hi w s la lc hfi ho hB
    have HIH := Lib.hid ih
    clear ih
    have HO := Lib.hid ho; have HF := Lib.hid hfi
    have bl : s.1.length ≤ N := nodup_le hfi.1 hfi.2.1
    have hl : (Y ++ [(⟨3, la, s.1.length, lc, NI s.1⟩ : Row)])[Y.length]? = some ⟨3, la, s.1.length, lc, NI s.1⟩ := by simp
    have HR0 := Lib.hid (ho.rdAt Y.length hl)
    by_cases hmem : i ∈ s.1
    · have hr : runF (parOf links) (f + 1) i s = s := by simp only [runF]; rw [if_pos hmem]
      rw [hr]
      obtain ⟨n, hn⟩ : ∃ n, s.1.length = n := ⟨_, rfl⟩
      rw [hn] at HO bl ⊢
      have HN := Lib.hid hn; have HMM := Lib.hid hmem
      clear hn hmem hr ho hfi hl
      go_enter Try.func17, Try.ntmps17
      go_wp2_with fail
      refine (oHas_any la lc n i s.1 w HR0.out HN.out (by omega) true (by simp [HMM.out])).mono ?_
      rintro e w1 ⟨rfl, rfl⟩
      go_wp2
      go_ret
      exact ⟨la, lc, by rw [HN.out]; rfl, by rw [HN.out]; exact HO.out, Below.refl _ _⟩
    · obtain ⟨b0, o0, pa, pc, ha0, hYi⟩ := hY i hi
      obtain ⟨q0, rp⟩ := hYi w _ ho
      have bpl : (parOf links i).length ≤ 2 := parOf_length
      have HYI := Lib.hid hYi; have HY := Lib.hid hY
      clear hYi hY
      have hmid : ∀ k, Fine N (partWalk (parOf links) f i k s) ∧ ¬ i ∈ (partWalk (parOf links) f i k s).1 := by
        intro k
        have : ∀ (l : List Nat) (s : List Nat × List (BitVec 64)), (∀ p ∈ l, p < i) → Fine N s → ¬ i ∈ s.1 → Fine N (l.foldl (fun s p => runF (parOf links) f p s) s) ∧ ¬ i ∈ (l.foldl (fun s p => runF (parOf links) f p s) s).1 := by
          intro l
          induction l with
          | nil => intro s _ h hn; exact ⟨h, hn⟩
          | cons p l ihl =>
            intro s hl h hn
            rw [List.foldl_cons]
            exact ihl _ (fun q hq => hl q (List.mem_cons_of_mem _ hq)) (runF_fine (fun i p hp => parOf_less p hp) f p s (by have := hl p (by simp); omega) h) (by rw [runF_gt (fun i p hp => parOf_less p hp) f p i s (hl p (by simp))]; exact hn)
        exact this _ _ (fun p hp => parOf_less p (List.mem_of_mem_take hp)) ⟨hfi.1, hfi.2.1, by simpa using hfi.2.2⟩ hmem
      have hend : (runF (parOf links) (f + 1) i s).1 = (partWalk (parOf links) f i (parOf links i).length s).1 ++ [i] := by
        simp only [runF]
        rw [if_neg hmem]
        unfold partWalk
        rw [List.take_length]
      have hstart : (partWalk (parOf links) f i 0 s).1 = s.1 := by simp [partWalk]
      have hstep : ∀ k (h : k < (parOf links i).length), partWalk (parOf links) f i (k + 1) s = runF (parOf links) f (parOf links i)[k] (partWalk (parOf links) f i k s) := by
        intro k h
        unfold partWalk
        rw [List.take_succ_eq_append_getElem h, List.foldl_append]
        rfl
      have HMID := Lib.hid hmid; have HEND := Lib.hid hend; have HST := Lib.hid hstep; have HS0 := Lib.hid hstart
      have HMM := Lib.hid hmem
      have HPL : Hid (∀ p ∈ parOf links i, p < i) := Lib.hid fun p hp => parOf_less p hp
      have HRP := Lib.hid rp
      obtain ⟨PW, hPW⟩ : ∃ P, (fun k => partWalk (parOf links) f i k s) = P := ⟨_, rfl⟩
      have hPWk : ∀ k, partWalk (parOf links) f i k s = PW k := fun k => by rw [← hPW]
      simp only [hPWk] at HMID HEND HST HS0
      obtain ⟨P, hP⟩ : ∃ P, parOf links i = P := ⟨_, rfl⟩
      obtain ⟨pl, hpl⟩ : ∃ l, P.length = l := ⟨_, rfl⟩
      rw [hP] at q0 bpl HEND HST HPL HRP HYI
      rw [hpl] at q0 bpl HEND HYI
      rw [HEND.out]
      have HP := Lib.hid hpl
      subst ha0
      obtain ⟨n, hn⟩ : ∃ n, s.1.length = n := ⟨_, rfl⟩
      rw [hn] at HO bl ⊢
      have HN := Lib.hid hn
      clear hmid hend hstep hstart hmem hPW hPWk hP hpl hn ho hfi hl rp
      go_enter Try.func17, Try.ntmps17
      go_wp2_with fail
      refine (oHas_any la lc n i s.1 w HR0.out HN.out (by omega) false (by simp [HMM.out])).mono ?_
      rintro e w1 ⟨rfl, hw⟩
      obtain rfl : w = w1 := hw.symm
      go_wp2
      go_loopw [18, 2] (fun x v wr => ∃ (k : Nat) (e0 : Option Addr) (g0 : Nat), k ≤ pl ∧ x = .int .i64 k ∧ v = .slice e0 (PW k).1.length g0 ∧ Owns wr B (Y ++ [⟨3, e0, (PW k).1.length, g0, NI (PW k).1⟩]) ∧ Below B w wr) (fun x _ _ => pl - (intOf x).toNat)
      case atStart => exact ⟨0, la, lc, Nat.zero_le _, rfl, by rw [HS0.out, HN.out], by rw [HS0.out, HN.out]; exact HO.out, Below.refl _ _⟩
      case round =>
        clear HO HR0 q0
        obtain ⟨k, e0, g0, hk, rfl, rfl, ho, hb⟩ := hrel
        have hsz := hb.size
        have bk : (PW k).1.length ≤ N := nodup_le (HMID.out k).1.1 (HMID.out k).1.2.1
        have hl : (Y ++ [(⟨3, e0, (PW k).1.length, g0, NI (PW k).1⟩ : Row)])[Y.length]? = some ⟨3, e0, (PW k).1.length, g0, NI (PW k).1⟩ := by simp
        by_cases hlt : k < pl
        · have lp : k < P.length := by rw [HP.out]; exact hlt
          obtain ⟨b2, o2, rfl, q2⟩ := at_int (HYI.out wr _ ho).2 (Below.refl _ _) (Nat.le_refl _) lp
          have HS1 := Lib.hid (HST.out k lp)
          have hpi := HPL.out _ (List.getElem_mem lp)
          obtain ⟨p, hp⟩ : ∃ p, P[k] = p := ⟨_, rfl⟩
          rw [hp] at q2 HS1 hpi
          have HF1 := Lib.hid (HMID.out k).1
          have HCALL := Lib.hid (HIH.out p (by omega) (by omega) wr (PW k) e0 g0 HF1.out ho (by omega))
          rw [← HS1.out] at HCALL
          obtain ⟨nk, hnk⟩ : ∃ n, (PW k).1.length = n := ⟨_, rfl⟩
          rw [hnk] at HCALL ⊢
          have HB := Lib.hid hb
          clear ho hb hl hp hnk bk
          go_wp2_with fail
          refine HCALL.out.mono ?_
          rintro e w2 ⟨e1, g1, rfl, ho1, hb1⟩
          have HO1 := Lib.hid ho1; have HB1 := Lib.hid (HB.out.trans hb1)
          clear ho1 hb1 HCALL HB
          go_wp2
          go_roundw
          case rel => exact ⟨k + 1, e1, g1, by omega, by go_num, rfl, HO1.out, HB1.out⟩
          case measure => simp [intOf]; omega
        · have hkp : pl = k := by omega
          subst hkp
          have HR1 := Lib.hid (ho.rdAt Y.length hl)
          have HNI := Lib.hid (HMID.out pl).2
          have HO1 := Lib.hid ho; have HB1 := Lib.hid hb
          obtain ⟨L, hL⟩ : ∃ L, (PW pl).1 = L := ⟨_, rfl⟩
          rw [hL] at HR1 HNI HO1 bk ⊢
          obtain ⟨nk, hnk⟩ : ∃ n, L.length = n := ⟨_, rfl⟩
          rw [hnk] at HO1 bk ⊢
          have HNK := Lib.hid hnk; have HLL := Lib.hid hL
          clear ho hb hl hL hnk
          go_wp2_with fail
          refine (oHas_any e0 g0 nk i L wr HR1.out HNK.out (by omega) false (by simp [HNI.out])).mono ?_
          rintro e w2 ⟨rfl, hw⟩
          obtain rfl : wr = w2 := hw.symm
          go_wp2_with (at_builtin; refine app3s Y [] (.tmp 31) (.tmp 33) rfl rfl wr.heap.size rfl rfl rfl HO1.out rfl (by omega) (by omega) ?_)
          intro e1 g1 w3 ho3 hb3 hs3
          have HO3 : Hid (Owns w3 B (Y ++ [⟨3, e1, (L ++ [i]).length, g1, NI (L ++ [i])⟩])) := by
            refine Lib.hid ?_
            rw [NI_snoc, List.length_append, HNK.out]
            exact ho3
          have HB3 := Lib.hid (HB1.out.trans hb3)
          have HLN : Hid ((L ++ [i]).length = nk + 1) := by show _ = _; rw [List.length_append, HNK.out]; rfl
          clear ho3 hb3 HO1 HB1
          go_wp2
          go_ret
          rw [HLL.out]
          exact ⟨e1, g1, by rw [HLN.out]; rfl, HO3.out, HB3.out⟩
end Go.Proofs.Ytjjmjjbeecmmlad
