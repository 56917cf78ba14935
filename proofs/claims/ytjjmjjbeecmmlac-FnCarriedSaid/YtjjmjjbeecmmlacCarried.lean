/-
  The walk of FnCarried: to add numbers of 64 bits is to add their halves with a carry.
-/
import Derived.Test.YtjjmjjbeecmmlacHalf
import Derived.Test.YtjjmjjbeecmmlacGrow
import Derived.Test.YtjjmjjbeecmmlacSlices
import Derived.Test.YtjjmjjbeecmmlacFrame
namespace Go.Proofs.Ytjjmjjbeecmmlac
set_option linter.unusedVariables false
set_option linter.unusedSimpArgs false
open Go.RowKit

def addCall (x : BitVec 64) : Call 64 := ⟨2, 0, x, 0⟩
/-- The sums so far. -/
def sums (s : BitVec 64) (l : List (BitVec 64)) (k : Nat) : BitVec 64 := (l.take k).foldl (· + ·) s
theorem sums_succ {s : BitVec 64} {l : List (BitVec 64)} {k : Nat} (h : k < l.length) : sums s l (k + 1) = sums s l k + l[k] := by
  unfold sums
  rw [List.take_succ_eq_append_getElem h, List.foldl_append]
  rfl
theorem sums_run : ∀ (l : List (BitVec 64)) (s : BitVec 64) (k : Nat), k < l.length → (runL [s] (l.map addCall)).1[k]? = some (sums s l (k + 1)) := by
  intro l
  induction l with
  | nil => intro s k h; simp at h
  | cons x l ih =>
    intro s k h
    have e : runL [s] ((x :: l).map addCall) = ((s + x) :: (runL [s + x] (l.map addCall)).1, (runL [s + x] (l.map addCall)).2) := by
      simp [runL, addCall, Call.step]
    rw [e]
    cases k with
    | zero => simp [sums]
    | succ k =>
      rw [List.getElem?_cons_succ, ih (s + x) k (by simpa using h)]
      simp [sums]

theorem lay4 {w : World} {B : Nat} {L : List Row} (h : Owns w B L) (hz : B ≤ w.heap.size) (cl : Nat) (cv : Int) (hcv : cv = (cl : Int)) (v : BitVec 32) :
    Owns ((((w.alloc (.cells #[.int .u8 2] 5)).alloc (.cells #[.int .i64 cv] 3)).alloc (.cells #[.int .u32 (v.toNat : Int)] 35)).alloc (.cells #[.int .u32 0] 35)) B
      (L ++ [⟨5, some ⟨w.heap.size, 0, none⟩, 1, 1, U8 (kindsOf [(⟨2, cl, v, 0⟩ : Call 32)])⟩, ⟨3, some ⟨w.heap.size + 1, 0, none⟩, 1, 1, NI (cellsOf [(⟨2, cl, v, 0⟩ : Call 32)])⟩, ⟨35, some ⟨w.heap.size + 1 + 1, 0, none⟩, 1, 1, U32 (asOf [(⟨2, cl, v, 0⟩ : Call 32)])⟩, ⟨35, some ⟨w.heap.size + 1 + 1 + 1, 0, none⟩, 1, 1, U32 (bsOf [(⟨2, cl, v, 0⟩ : Call 32)])⟩]) := by
  subst hcv
  have := (((h.made hz 5 #[.int .u8 2] (by simp [maxLen])).made (by simp; omega) 3 #[.int .i64 (cl : Int)] (by simp [maxLen])).made (by simp; omega) 35 #[.int .u32 (v.toNat : Int)] (by simp [maxLen])).made (by simp; omega) 35 #[.int .u32 0] (by simp [maxLen])
  simpa [U32, U8, NI, kindsOf, cellsOf, asOf, bsOf] using this
theorem below4 {w0 w : World} {B : Nat} (h : Below B w0 w) (hz : B ≤ w.heap.size) (cv : Int) (v : BitVec 32) :
    Below B w0 ((((w.alloc (.cells #[.int .u8 2] 5)).alloc (.cells #[.int .i64 cv] 3)).alloc (.cells #[.int .u32 (v.toNat : Int)] 35)).alloc (.cells #[.int .u32 0] 35)) :=
  (((h.alloc hz _).alloc (by simp; omega) _).alloc (by simp; omega) _).alloc (by simp; omega) _
theorem add_low (a b v : BitVec 32) : runL [a, b] [(⟨2, 0, v, 0⟩ : Call 32)] = ([a + v], [a + v, b]) := by simp [runL, Call.step]
theorem add_high (a b v : BitVec 32) : runL [a, b] [(⟨2, 1, v, 0⟩ : Call 32)] = ([b + v], [a, b + v]) := by simp [runL, Call.step]

set_option maxHeartbeats 3200000 in
set_option maxRecDepth 100000 in
theorem fnCarried_any (w : World) (x0 : BitVec 64) (a1 : Option Addr) (n1 c1 : Nat) (x1 : List (BitVec 64)) (k1 : Came w a1 n1 c1 (U x1)) (bd1 : n1 * 8 ≤ 140737488351232) :
    Calls Try.prog 6 #[.int .u64 (x0.toNat : Int), .slice a1 n1 c1] w fun e w' => e = .returned (.bool true) ∧ Below w.heap.size w w' := by
  have K1 := Lib.hid k1.u64
  clear k1
  obtain ⟨sc, hsc⟩ : ∃ sc, x1.map addCall = sc := ⟨_, rfl⟩
  have HL : Hid (sc.length = n1) := by show _ = _; rw [← hsc, List.length_map]; exact K1.out.2.1
  have HC : Hid (∀ c ∈ sc, c.cell < 1) := by
    refine Lib.hid fun c hc => ?_
    rw [← hsc] at hc
    obtain ⟨x, _, rfl⟩ := List.mem_map.1 hc
    exact Nat.zero_lt_one
  have HAS : Hid (asOf sc = x1) := by show _ = _; rw [← hsc]; simp [asOf, addCall, Function.comp_def]
  have HTK : Hid (∀ k, k < n1 → U8 (kindsOf (sc.take (k + 1))) = U8 (kindsOf (sc.take k)) ++ [.int .u8 2] ∧ NI (cellsOf (sc.take (k + 1))) = NI (cellsOf (sc.take k)) ++ [.int .i64 0] ∧ U (bsOf (sc.take (k + 1))) = U (bsOf (sc.take k)) ++ [.int .u64 0]) := by
    refine Lib.hid fun k hk => ?_
    have h : k < sc.length := by rw [HL.out]; exact hk
    have hx1 : k < x1.length := by rw [K1.out.2.1]; exact hk
    have hg : sc[k] = addCall x1[k] := by subst hsc; simp
    rw [List.take_succ_eq_append_getElem h, hg]
    simp [kindsOf, cellsOf, bsOf, U8, NI, U, addCall]
  obtain ⟨AN, hAN⟩ : ∃ A, (runL [x0] sc).1 = A := ⟨_, rfl⟩
  obtain ⟨LA, hLA⟩ : ∃ A, (runL [x0] sc).2 = A := ⟨_, rfl⟩
  have HLN : Hid (AN.length = n1) := by show _ = _; rw [← hAN, runL_fst_length, HL.out]
  obtain ⟨T, hT⟩ : ∃ T, sums x0 x1 = T := ⟨_, rfl⟩
  have HT0 : Hid (T 0 = x0) := by show _ = _; rw [← hT]; rfl
  have HTS : Hid (∀ k (h : k < x1.length), T (k + 1) = T k + x1[k]) := by refine Lib.hid fun k h => ?_; rw [← hT]; exact sums_succ h
  have HAT : Hid (∀ k (h : k < AN.length), AN[k] = T (k + 1)) := by
    refine Lib.hid fun k h => ?_
    have hk : k < x1.length := by rw [K1.out.2.1, ← HLN.out]; exact h
    have := sums_run x1 x0 k hk
    rw [hsc, hAN, List.getElem?_eq_getElem h, hT] at this
    exact Option.some.inj this
  have HAN := Lib.hid hAN; have HLA := Lib.hid hLA
  have hp := Lib.hid ((((Owns.nil w w.heap.size).made (Nat.le_refl _) 5 #[] (by simp)).made (by simp) 3 #[] (by simp)).made (by simp; omega) 22 #[] (by simp))
  have hbp := Lib.hid ((((Below.refl w.heap.size w).alloc (Nat.le_refl _) (.cells #[] 5)).alloc (by simp) (.cells #[] 3)).alloc (by simp; omega) (.cells #[] 22))
  clear hAN hLA hT hsc
  have t1 : ((n1 : Int) != (n1 : Int)) = false := by simp
  go_enter Try.func6, Try.ntmps6
  go_wp2
  go_loopw [23, 5, 6, 7] (fun i v0 v1 v2 wr => ∃ (k : Nat) (e0 e1 e2 : Option Addr) (g0 g1 g2 : Nat), k ≤ n1 ∧ i = .int .i64 k ∧ v0 = .slice e0 k g0 ∧ v1 = .slice e1 k g1 ∧ v2 = .slice e2 k g2 ∧ Owns wr w.heap.size [⟨5, e0, k, g0, U8 (kindsOf (sc.take k))⟩, ⟨3, e1, k, g1, NI (cellsOf (sc.take k))⟩, ⟨22, e2, k, g2, U (bsOf (sc.take k))⟩] ∧ Below w.heap.size w wr) (fun i _ _ _ _ => n1 - (intOf i).toNat)
  case atStart => exact ⟨0, _, _, _, _, _, _, Nat.zero_le _, rfl, rfl, rfl, rfl, by simpa [kindsOf, cellsOf, bsOf] using hp.out, hbp.out⟩
  case round =>
    clear hp hbp
    obtain ⟨k, e0, e1, e2, g0, g1, g2, hk, rfl, rfl, rfl, rfl, ho, hb⟩ := hrel
    have hsz := hb.size
    by_cases hlt : k < n1
    · have HD := Lib.hid (HTK.out k hlt)
      have HO := Lib.hid ho; have HB := Lib.hid hb
      clear ho hb
      go_wp2_with (at_builtin; refine app5s [] [_, _] (.tmp 25) (.tmp 26) rfl rfl wr.heap.size rfl rfl rfl HO.out rfl (by omega) (by omega) ?_)
      intro f0 j0 u1 ho1 hb1 hs1
      have HO1 := Lib.hid ho1; have HB1 := Lib.hid (HB.out.trans hb1)
      clear ho1 hb1 HO HB
      go_wp2_with (at_builtin; refine app3s [_] [_] (.tmp 28) (.tmp 29) rfl rfl u1.heap.size rfl rfl rfl HO1.out rfl (by omega) (by omega) ?_)
      intro f1 j1 u2 ho2 hb2 hs2
      have HO2 := Lib.hid ho2; have HB2 := Lib.hid (HB1.out.trans hb2)
      clear ho2 hb2 HO1 HB1
      go_wp2_with (at_builtin; refine app30s [_, _] [] (.tmp 31) (.tmp 32) rfl rfl u2.heap.size rfl rfl rfl HO2.out rfl (by omega) (by omega) ?_)
      intro f2 j2 u3 ho3 hb3 hs3
      have HO3 : Hid (Owns u3 w.heap.size [⟨5, f0, (k + 1), j0, U8 (kindsOf (sc.take (k + 1)))⟩, ⟨3, f1, (k + 1), j1, NI (cellsOf (sc.take (k + 1)))⟩, ⟨22, f2, (k + 1), j2, U (bsOf (sc.take (k + 1)))⟩]) := by
        refine Lib.hid ?_
        rw [HD.out.1, HD.out.2.1, HD.out.2.2]
        exact ho3
      have HB3 := Lib.hid (HB2.out.trans hb3)
      clear ho3 hb3 HO2 HB2
      go_wp2
      go_roundw
      case rel => exact ⟨k + 1, f0, f1, f2, j0, j1, j2, by omega, by go_num, rfl, rfl, rfl, HO3.out, HB3.out⟩
      case measure => simp [intOf] <;> omega
    · rw [List.take_of_length_le (by rw [HL.out]; omega)] at ho
      have hkn : n1 = k := by omega
      subst hkn
      obtain ⟨w1, rfl⟩ : ∃ w1 : World, w1 = wr := ⟨_, rfl⟩
      have O1 := Lib.hid ho; have B1 := Lib.hid hb; have hz1 := hsz
      clear ho hb hsz HTK
      have O2 := Lib.hid (O1.out.made hz1 22 #[.int .u64 (x0.toNat : Int)] (by simp [maxLen])); have B2 := Lib.hid (B1.out.alloc hz1 (.cells #[.int .u64 (x0.toNat : Int)] 22))
      have hz2 := Lib.hid B2.out.size
      clear O1 B1 hz1
      go_wp2_with fail
      refine (run64_any _ (some ⟨w1.heap.size, 0, none⟩) e0 e1 a1 e2 1 g0 g1 c1 g2 1 n1 [x0] sc rfl HL.out (O2.out.rdAt 3 rfl) (O2.out.rdAt 0 rfl) (O2.out.rdAt 1 rfl) (by rw [HAS.out]; exact K1.out.1.mono B2.out (Nat.le_refl _)) (O2.out.rdAt 2 rfl) (by omega) (by omega) HC.out).mono ?_
      rintro e w3 ⟨s1, d1, s2, d2, rfl, ho, hb⟩
      have O3 := Lib.hid (O2.out.more hb ho hz2); have B3 := Lib.hid (Below.more B2.out hb hz2)
      have hz3 : w.heap.size ≤ w3.heap.size := B3.out.size
      clear ho hb O2 B2 hz2
      rw [HAN.out, HLA.out] at O3
      have O4 := Lib.hid (O3.out.drop (L' := [⟨22, s1, n1, d1, U AN⟩]) (by simp))
      clear O3
      go_wp2_with fail
      refine (lowHalf_any x0 _).mono ?_
      rintro e w4 ⟨rfl, rfl⟩
      go_wp2_with fail
      refine (highHalf_any x0 _).mono ?_
      rintro e w5 ⟨rfl, rfl⟩
      have O5 : Hid (Owns (w5.alloc (.cells #[.int .u32 ((lo x0).toNat : Int), .int .u32 ((hi x0).toNat : Int)] 35)) w.heap.size [⟨22, s1, n1, d1, U AN⟩, ⟨35, some ⟨w5.heap.size, 0, none⟩, 2, 2, U32 [lo (T 0), hi (T 0)]⟩]) := by
        refine Lib.hid ?_
        rw [HT0.out]
        exact O4.out.made hz3 35 #[.int .u32 ((lo x0).toNat : Int), .int .u32 ((hi x0).toNat : Int)] (by simp [maxLen])
      have B5 := Lib.hid (B3.out.alloc hz3 (.cells #[.int .u32 ((lo x0).toNat : Int), .int .u32 ((hi x0).toNat : Int)] 35))
      clear O4 B3 hz3
      go_wp2
      go_loopw [57, 10] (fun i v wr => ∃ (k : Nat) (e0 : Option Addr) (g0 : Nat), k ≤ n1 ∧ i = .int .i64 k ∧ v = .slice e0 2 g0 ∧ Owns wr w.heap.size [⟨22, s1, n1, d1, U AN⟩, ⟨35, e0, 2, g0, U32 [lo (T k), hi (T k)]⟩] ∧ Below w.heap.size w wr) (fun i _ _ => n1 - (intOf i).toNat)
      case atStart => exact ⟨0, _, _, Nat.zero_le _, rfl, rfl, O5.out, B5.out⟩
      case round =>
        clear O5 B5
        obtain ⟨k, e0, g0, hk, rfl, rfl, ho, hb⟩ := hrel
        have hsz := hb.size
        by_cases hlt : k < n1
        · have lx : k < x1.length := by rw [K1.out.2.1]; exact hlt
          have lA : k < AN.length := by rw [HLN.out]; exact hlt
          obtain ⟨ba, oa, rfl, qa⟩ := at_u64 K1.out.1 hb (Nat.le_refl _) lx
          have HS := Lib.hid (HTS.out k lx)
          have HA := Lib.hid (HAT.out k lA)
          obtain ⟨x, hx⟩ : ∃ x, x1[k] = x := ⟨_, rfl⟩
          obtain ⟨s, hs⟩ : ∃ s, T k = s := ⟨_, rfl⟩
          rw [hx] at qa HS
          rw [hs] at HS ho
          have H1 := Lib.hid (add_low (lo s) (hi s) (lo x))
          have H2 := Lib.hid (add_high (lo s + lo x) (hi s) (hi x + carry s x))
          rw [← carried_lo] at H1 H2
          rw [← carried_hi, ← HS.out] at H2
          rw [← HS.out] at H1
          have O6 := Lib.hid (lay4 ho hsz 0 0 rfl (lo x)); have B6 := Lib.hid (below4 hb hsz 0 (lo x))
          have hz6 := Lib.hid B6.out.size
          have hnil := Lib.hid ((ho.cap 1 rfl).2.2)
          clear ho hb hs hx
          go_wp2_with fail
          refine (lowHalf_any x _).mono ?_
          rintro e w4 ⟨rfl, rfl⟩
          go_wp2_with fail
          refine (run32_any _ e0 _ _ _ _ g0 1 1 1 1 2 1 [lo s, hi s] [⟨2, 0, lo x, 0⟩] rfl rfl (fun h => (hnil.out h).2) (O6.out.rdAt 1 rfl) (O6.out.rdAt 2 rfl) (O6.out.rdAt 3 rfl) (O6.out.rdAt 4 rfl) (O6.out.rdAt 5 rfl) (by omega) (by omega) (by simp)).mono ?_
          rintro e w7 ⟨s7, d7, s8, d8, rfl, ho, hb⟩
          rw [H1.out] at ho
          have O7 := Lib.hid ((O6.out.more hb ho hz6.out).drop (L' := [⟨22, s1, n1, d1, U AN⟩, ⟨35, s7, 1, d7, U32 [lo (T (k + 1))]⟩, ⟨35, s8, 2, d8, U32 [lo (T (k + 1)), hi s]⟩]) (by show List.Sublist [_, _, _] [_, _, _, _, _, _, _, _]; exact .cons_cons _ (.cons _ (.cons _ (.cons _ (.cons _ (.cons _ (.refl _))))))))
          have B7 := Lib.hid (Below.more B6.out hb hz6.out)
          clear ho hb O6 B6 hz6 H1 hnil qa
          obtain ⟨b7, rfl⟩ := O7.out.addr 1 rfl (k := 0) (by simp)
          have q7 := O7.out.get32 1 rfl (k := 0) (by simp)
          replace q7 : w7.cell? ⟨b7, 0, none⟩ = some (.int .u32 ((lo (T (k + 1))).toNat : Int)) := q7
          have HCY : Hid (carry s x = if (lo (T (k + 1))).toNat < (lo x).toNat then 1 else 0) := by refine Lib.hid ?_; rw [HS.out, carried_lo]; rfl
          have HOR := Lib.hid (halves_or (T (k + 1)))
          obtain ⟨t, ht⟩ : ∃ t, T (k + 1) = t := ⟨_, rfl⟩
          rw [ht] at HOR HCY O7 q7 H2 HA
          have HTT := Lib.hid ht
          clear ht HS
          have hz7 := B7.out.size
          by_cases hcy : ((lo t).toNat : Int) < ((lo x).toNat : Int)
          · rw [if_pos (by omega)] at HCY
            rw [HCY.out] at H2
            obtain ⟨v, hv⟩ : ∃ v, hi x + 1 = v := ⟨_, rfl⟩
            have tw : IntKind.u32.wrap (((hi x).toNat : Int) + 1) = (v.toNat : Int) := by rw [← hv]; exact u32_add (hi x) 1
            rw [hv] at H2
            clear hv
            go_wp2
            go_quiet ((go_at_call 13; exact Calls.quiet_of_same (lowHalf_any x _)))
            have O8 := Lib.hid (lay4 (O7.out.drewN nq) hz7 1 1 rfl v); have B8 := Lib.hid (below4 (below_drewN B7.out nq) hz7 1 v)
            have hz8 := Lib.hid B8.out.size
            have hnil := Lib.hid ((O7.out.cap 2 rfl).2.2)
            clear O7 B7
            generalize hwq : w7.drewN nq = wq at O8 B8 hz8 ⊢
            clear hwq q7 hz7
            go_wp2_with fail
            refine (highHalf_any x _).mono ?_
            rintro e w9 ⟨rfl, rfl⟩
            go_wp2_with fail
            refine (run32_any _ s8 _ _ _ _ d8 1 1 1 1 2 1 [lo t, hi s] [⟨2, 1, v, 0⟩] rfl rfl (fun h => (hnil.out h).2) (O8.out.rdAt 2 rfl) (O8.out.rdAt 3 rfl) (O8.out.rdAt 4 rfl) (O8.out.rdAt 5 rfl) (O8.out.rdAt 6 rfl) (by omega) (by omega) (by simp)).mono ?_
            rintro e w10 ⟨s9, d9, s10, d10, rfl, ho, hb⟩
            have O9 := Lib.hid ((O8.out.more hb ho hz8.out).drop (L' := [⟨22, s1, n1, d1, U AN⟩, ⟨35, some ⟨b7, 0, none⟩, 1, d7, U32 [lo t]⟩, ⟨35, s9, 1, d9, U32 (runL [lo t, hi s] [⟨2, 1, v, 0⟩]).1⟩, ⟨35, s10, 2, d10, U32 (runL [lo t, hi s] [⟨2, 1, v, 0⟩]).2⟩]) (by show List.Sublist [_, _, _, _] [_, _, _, _, _, _, _, _, _]; exact .cons_cons _ (.cons_cons _ (.cons _ (.cons _ (.cons _ (.cons _ (.cons _ (.refl _)))))))))
            have B9 := Lib.hid (Below.more B8.out hb hz8.out)
            clear ho hb O8 B8 hz8 hnil
            rw [H2.out] at O9
            obtain ⟨b9, rfl⟩ := O9.out.addr 2 rfl (k := 0) (by simp)
            obtain ⟨bA, rfl⟩ := O9.out.addr 0 rfl (k := k) (by simpa using lA)
            have q7 := O9.out.get32 1 rfl (k := 0) (by simp)
            replace q7 : w10.cell? ⟨b7, 0, none⟩ = some (.int .u32 ((lo t).toNat : Int)) := q7
            have q9 := O9.out.get32 2 rfl (k := 0) (by simp)
            replace q9 : w10.cell? ⟨b9, 0, none⟩ = some (.int .u32 ((hi t).toNat : Int)) := q9
            have qA := O9.out.get64 0 rfl lA
            rw [HA.out] at qA
            have hb1 := (hi t).isLt
            have hb2 := (lo t).isLt
            have tc1 : IntKind.u64.wrap ((hi t).toNat : Int) = ((hi t).toNat : Int) := by rw [IntKind.wrap_u64]; omega
            have tc2 : IntKind.u64.wrap ((lo t).toNat : Int) = ((lo t).toNat : Int) := by rw [IntKind.wrap_u64]; omega
            have tc3 : IntKind.u64.wrap (((hi t).toNat : Int) * 4294967296) = (((hi t).toNat : Int) * 4294967296) := by rw [IntKind.wrap_u64]; omega
            have tor : bits .or .u64 (((hi t).toNat : Int) * 4294967296) ((lo t).toNat : Int) = (t.toNat : Int) := by
              have h := bits_or (BitVec.ofNat 64 ((hi t).toNat * 4294967296)) (BitVec.ofNat 64 (lo t).toNat)
              rw [HOR.out, BitVec.toNat_ofNat, BitVec.toNat_ofNat, Nat.mod_eq_of_lt (by omega), Nat.mod_eq_of_lt (by omega)] at h
              rw [← h]
              simp
            have tt : ((t.toNat : Int) != (t.toNat : Int)) = false := by simp
            clear hb1 hb2 HOR H2
            go_wp2
            go_quiet (fail)
            go_wp2
            go_roundw
            case rel => exact ⟨k + 1, s10, d10, by omega, by go_num, rfl, by rw [HTT.out]; exact (O9.out.drop (L' := [_, _]) (.cons_cons _ (.cons _ (.cons _ (.refl _))))).drewN _, below_drewN B9.out _⟩
            case measure => simp [intOf] <;> omega
          · rw [if_neg (by omega)] at HCY
            rw [HCY.out] at H2
            obtain ⟨v, hv⟩ : ∃ v, hi x + 0 = v := ⟨_, rfl⟩
            have tw : IntKind.u32.wrap ((hi x).toNat : Int) = (v.toNat : Int) := by rw [← hv, show hi x + 0 = hi x from by simp]; exact u32_bits _
            rw [hv] at H2
            clear hv
            go_wp2
            go_quiet ((go_at_call 13; exact Calls.quiet_of_same (lowHalf_any x _)))
            have O8 := Lib.hid (lay4 (O7.out.drewN nq) hz7 1 1 rfl v); have B8 := Lib.hid (below4 (below_drewN B7.out nq) hz7 1 v)
            have hz8 := Lib.hid B8.out.size
            have hnil := Lib.hid ((O7.out.cap 2 rfl).2.2)
            clear O7 B7
            generalize hwq : w7.drewN nq = wq at O8 B8 hz8 ⊢
            clear hwq q7 hz7
            go_wp2_with fail
            refine (highHalf_any x _).mono ?_
            rintro e w9 ⟨rfl, rfl⟩
            go_wp2_with fail
            refine (run32_any _ s8 _ _ _ _ d8 1 1 1 1 2 1 [lo t, hi s] [⟨2, 1, v, 0⟩] rfl rfl (fun h => (hnil.out h).2) (O8.out.rdAt 2 rfl) (O8.out.rdAt 3 rfl) (O8.out.rdAt 4 rfl) (O8.out.rdAt 5 rfl) (O8.out.rdAt 6 rfl) (by omega) (by omega) (by simp)).mono ?_
            rintro e w10 ⟨s9, d9, s10, d10, rfl, ho, hb⟩
            have O9 := Lib.hid ((O8.out.more hb ho hz8.out).drop (L' := [⟨22, s1, n1, d1, U AN⟩, ⟨35, some ⟨b7, 0, none⟩, 1, d7, U32 [lo t]⟩, ⟨35, s9, 1, d9, U32 (runL [lo t, hi s] [⟨2, 1, v, 0⟩]).1⟩, ⟨35, s10, 2, d10, U32 (runL [lo t, hi s] [⟨2, 1, v, 0⟩]).2⟩]) (by show List.Sublist [_, _, _, _] [_, _, _, _, _, _, _, _, _]; exact .cons_cons _ (.cons_cons _ (.cons _ (.cons _ (.cons _ (.cons _ (.cons _ (.refl _)))))))))
            have B9 := Lib.hid (Below.more B8.out hb hz8.out)
            clear ho hb O8 B8 hz8 hnil
            rw [H2.out] at O9
            obtain ⟨b9, rfl⟩ := O9.out.addr 2 rfl (k := 0) (by simp)
            obtain ⟨bA, rfl⟩ := O9.out.addr 0 rfl (k := k) (by simpa using lA)
            have q7 := O9.out.get32 1 rfl (k := 0) (by simp)
            replace q7 : w10.cell? ⟨b7, 0, none⟩ = some (.int .u32 ((lo t).toNat : Int)) := q7
            have q9 := O9.out.get32 2 rfl (k := 0) (by simp)
            replace q9 : w10.cell? ⟨b9, 0, none⟩ = some (.int .u32 ((hi t).toNat : Int)) := q9
            have qA := O9.out.get64 0 rfl lA
            rw [HA.out] at qA
            have hb1 := (hi t).isLt
            have hb2 := (lo t).isLt
            have tc1 : IntKind.u64.wrap ((hi t).toNat : Int) = ((hi t).toNat : Int) := by rw [IntKind.wrap_u64]; omega
            have tc2 : IntKind.u64.wrap ((lo t).toNat : Int) = ((lo t).toNat : Int) := by rw [IntKind.wrap_u64]; omega
            have tc3 : IntKind.u64.wrap (((hi t).toNat : Int) * 4294967296) = (((hi t).toNat : Int) * 4294967296) := by rw [IntKind.wrap_u64]; omega
            have tor : bits .or .u64 (((hi t).toNat : Int) * 4294967296) ((lo t).toNat : Int) = (t.toNat : Int) := by
              have h := bits_or (BitVec.ofNat 64 ((hi t).toNat * 4294967296)) (BitVec.ofNat 64 (lo t).toNat)
              rw [HOR.out, BitVec.toNat_ofNat, BitVec.toNat_ofNat, Nat.mod_eq_of_lt (by omega), Nat.mod_eq_of_lt (by omega)] at h
              rw [← h]
              simp
            have tt : ((t.toNat : Int) != (t.toNat : Int)) = false := by simp
            clear hb1 hb2 HOR H2
            go_wp2
            go_quiet (fail)
            go_wp2
            go_roundw
            case rel => exact ⟨k + 1, s10, d10, by omega, by go_num, rfl, by rw [HTT.out]; exact (O9.out.drop (L' := [_, _]) (.cons_cons _ (.cons _ (.cons _ (.refl _))))).drewN _, below_drewN B9.out _⟩
            case measure => simp [intOf] <;> omega
        · have HB := Lib.hid hb
          clear ho hb
          go_wp2
          go_ret
          exact ⟨rfl, HB.out⟩
end Go.Proofs.Ytjjmjjbeecmmlac
