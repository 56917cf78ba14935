/-
  The walk of FnSetOfBits: four cells are a set of numbers from 0 to 255.
-/
import Derived.Test.YtjjmjjbeecmmlabGrow
import Derived.Test.YtjjmjjbeecmmlabBitsPlain
import Derived.Test.YtjjmjjbeecmmlabFrame
namespace Go.Proofs.Ytjjmjjbeecmmlab
set_option linter.unusedVariables false
set_option linter.unusedSimpArgs false
open Go.RowKit

theorem infoB : (Try.prog.info? 4).map (fun i => (i.zero, i.size, i.bytes)) = some (some (.bool false), 1, 1) := by kernel_rfl
/-- A list of truth values as cells. -/
def BL (xs : List Bool) : List Value := xs.map .bool
section
variable {xs : List Bool} {i : Nat}
@[simp] theorem BL_length : (BL xs).length = xs.length := by simp [BL]
@[simp] theorem BL_nil : BL [] = [] := rfl
theorem BL_snoc (x : Bool) : BL (xs ++ [x]) = BL xs ++ [.bool x] := by simp [BL]
theorem BL_get (h : i < xs.length) : (BL xs)[i]? = some (.bool xs[i]) := by simp [BL, h]
theorem BL_set (x : Bool) : (BL xs).set i (.bool x) = BL (xs.set i x) := by simp [BL, List.map_set]
end
section
variable {w : World} {ops : Array Oper} {rest : List Oper} {o : Oper} {a : Act} {Q : Exit → Act → World → Prop} {B : Nat} (p q : List Row) {ra : Option Addr} {n rc : Nat} {xs : List Value} {v : Value} (s x : Operand)
theorem appBs (hgd : o.guard = none) (ho : o.op = .call { callee := .builtin .append, args := #[s, x], argTypes := #[33, 33] }) (sz : Nat) (hsz : w.heap.size = sz) (hs : a.eval s = .slice ra n rc) (hx : a.eval x = .slice (some ⟨sz, 0, none⟩) 1 1)
    (hown : Owns w B (p ++ ⟨4, ra, n, rc, xs⟩ :: q)) (hv : v.oneCell' = true) (hn : n < 17592186043904) (hB : B ≤ sz)
    (h : ∀ a' c' w', Owns w' B (p ++ ⟨4, a', n + 1, c', xs ++ [v]⟩ :: q) → Below B w w' → sz ≤ w'.heap.size → wpList Try.prog ops Q rest (a.put o.dst (.slice a' (n + 1) c')) w') :
    wpList Try.prog ops Q (o :: rest) a (w.alloc (.cells #[v] 4)) :=
  wpList_append1s Try.underlying33 infoB rfl (by decide) p q s x sz hsz hgd ho hs hx hown hv (by omega) hB h
end
theorem Owns.getB {w : World} {B : Nat} {L : List Row} {e : TypeId} {b n c k : Nat} {xs : List Bool} {v : Bool} (h : Owns w B L) (i : Nat) (hi : L[i]? = some ⟨e, some ⟨b, 0, none⟩, n, c, BL xs⟩) (hv : xs[k]? = some v) : w.cell? ⟨b, k, none⟩ = some (.bool v) := by
  obtain ⟨hk, hv⟩ := List.getElem?_eq_some_iff.1 hv
  obtain ⟨b', hb, hc, _⟩ := h.cellAt i hi (j := k) (by simpa using hk)
  simp only [Option.some.injEq, Addr.mk.injEq, and_true] at hb
  subst hb
  rw [hc, BL_get hk, hv]
theorem made_bool (n : Nat) : (madeCells #[.bool false] n).toList = BL (List.replicate n false) := by
  simp only [madeCells, BL]
  rw [List.map_replicate]
  apply List.ext_getElem
  · simp
  · intro i h1 h2
    simp [Nat.mod_one]
/-- A slice made by 'make', beside rows of the call's own. -/
theorem Owns.makes {wp w1 : World} {B : Nat} {L : List Row} {e : TypeId} {n b : Nat} {xs : List Value} (h : Owns wp B L) (hB : B ≤ wp.heap.size) (hb : wp.heap.size = b) (ho : w1.ownsRow b e 1 (.slice (some ⟨b, 0, none⟩) n n) n xs) (hg : wp.grownBy w1 none) :
    Owns w1 B (L ++ [⟨e, some ⟨b, 0, none⟩, n, n, xs⟩]) ∧ Below wp.heap.size wp w1 := by
  subst hb
  have hbl := (Below.refl wp.heap.size wp).grown hg (Nat.le_refl _) (by simp)
  exact ⟨h.more hbl ⟨by intro r hr; simp at hr; subst hr; exact ho, by simp⟩ hB, hbl⟩

theorem bit_of (v : BitVec 64) (q : Nat) : bits .and .u64 ((v.toNat : Int) / 2 ^ q) 1 = if v.getLsbD q then 1 else 0 := by
  have e1 : (v.toNat : Int) / 2 ^ q = ((v >>> q).toNat : Int) := by
    rw [BitVec.toNat_ushiftRight, Nat.shiftRight_eq_div_pow]
    simp
  have e2 := bits_and (v >>> q) 1#64
  rw [e1]
  refine Eq.trans e2 ?_
  rw [BitVec.toNat_and]
  simp only [BitVec.toNat_ushiftRight, BitVec.toNat_ofNat]
  have e3 : v.toNat >>> q &&& 1 % 2 ^ 64 = if v.toNat.testBit q then 1 else 0 := by
    rw [show 1 % 2 ^ 64 = 1 by decide, Nat.and_one_is_mod]
    have := Nat.testBit_eq_decide_div_mod_eq (x := v.toNat) (i := q)
    rw [this, Nat.shiftRight_eq_div_pow]
    by_cases h : v.toNat / 2 ^ q % 2 = 1
    · simp [h]
    · simp only [h, decide_false]
      simp
      omega
  rw [e3]
  simp only [BitVec.getLsbD]
  split <;> rfl

/-- Which numbers are in. -/
def inSet (st : List (BitVec 64)) : List Bool := (List.range 256).map (has st)
theorem inSet_length {st : List (BitVec 64)} : (inSet st).length = 256 := by simp [inSet]
theorem inSet_get {st : List (BitVec 64)} {x : Nat} (h : x < 256) : (inSet st)[x]? = some (has st x) := by simp [inSet, h]
theorem inSet_step {st : List (BitVec 64)} (hl : st.length = 4) (x : BitVec 8) (put : Bool) : inSet (st.set (bitCall x put).cell ((bitCall x put).step (st.getD (bitCall x put).cell 0)).2) = (inSet st).set x.toNat put := by
  apply List.ext_getElem
  · simp [inSet]
  · intro i h1 h2
    simp [inSet] at h1
    rw [List.getElem_set]
    simp only [inSet, List.getElem_map, List.getElem_range]
    rw [has_step hl x put i h1]
    by_cases e : i = x.toNat
    · rw [if_pos e, if_pos e.symm]
    · rw [if_neg e, if_neg (fun h => e h.symm)]

theorem and_not_val (q : Nat) : bits .xor .u64 IntKind.u64.max ((BitVec.ofNat 64 (2 ^ q)).toNat : Int) = ((~~~BitVec.ofNat 64 (2 ^ q)).toNat : Int) ∧ bits .xor .u64 (if IntKind.u64.signed = true then -1 else IntKind.u64.max) ((BitVec.ofNat 64 (2 ^ q)).toNat : Int) = ((~~~BitVec.ofNat 64 (2 ^ q)).toNat : Int) := by
  have h : bits .xor .u64 18446744073709551615 ((BitVec.ofNat 64 (2 ^ q)).toNat : Int) = ((~~~BitVec.ofNat 64 (2 ^ q)).toNat : Int) := by
    show IntKind.u64.wrap ((BitVec.ofInt 64 (18446744073709551615 : Int) ^^^ BitVec.ofInt 64 ((BitVec.ofNat 64 (2 ^ q)).toNat : Int)).toNat : Int) = _
    rw [u64_of, u64_bits]
    have e : (BitVec.ofInt 64 (18446744073709551615 : Int) ^^^ BitVec.ofNat 64 (2 ^ q)) = ~~~BitVec.ofNat 64 (2 ^ q) := by
      rw [show BitVec.ofInt 64 (18446744073709551615 : Int) = BitVec.allOnes 64 by decide]
      exact BitVec.allOnes_xor
    rw [e]
  exact ⟨h, h⟩

set_option maxHeartbeats 3200000 in
set_option maxRecDepth 100000 in
theorem fnSetOfBits_any (w : World) (a0 : Option Addr) (n0 c0 : Nat) (x0 : List (BitVec 8)) (k0 : Came w a0 n0 c0 (U8 x0)) (a1 : Option Addr) (n1 c1 : Nat) (x1 : List (BitVec 8)) (k1 : Came w a1 n1 c1 (U8 x1)) (bd : n0 + n1 ≤ 1048576) :
    Calls Try.prog 5 #[.slice a0 n0 c0, .slice a1 n1 c1] w fun e w' => e = .returned (.bool true) ∧ Below w.heap.size w w' := by
  obtain ⟨i0, hi, hz0, hz1, hz2⟩ := info_parts info30
  obtain ⟨j0, hj, hy0, hy1, hy2⟩ := info_parts infoB
  have K0 := Lib.hid k0.u8; have K1 := Lib.hid k1.u8
  clear k0 k1
  obtain ⟨pk, hpk⟩ : ∃ pk : Nat → Bool, (fun k => decide (n1 ≤ k) || decide (0 < (x1.getD k 0).toNat % 3)) = pk := ⟨_, rfl⟩
  have HPK := Lib.hid hpk
  clear hpk
  obtain ⟨sc, hsc⟩ : ∃ sc, x0.mapIdx (fun k x => bitCall x (pk k)) = sc := ⟨_, rfl⟩
  have HL : Hid (sc.length = n0) := by show _ = _; rw [← hsc, List.length_mapIdx, K0.out.2.1]
  have HG : Hid (∀ k (h : k < sc.length) (h' : k < x0.length), sc[k] = bitCall x0[k] (pk k)) := by refine Lib.hid ?_; subst hsc; intro k h h'; simp
  have HC : Hid (∀ c ∈ sc, c.cell < 4) := by
    refine Lib.hid fun c hc => ?_
    rw [← hsc] at hc
    obtain ⟨i, hi, rfl⟩ := List.mem_mapIdx.1 hc
    rw [bitCall_cell]
    have := x0[i].isLt
    omega
  clear hsc
  obtain ⟨ST, hST⟩ : ∃ ST : Nat → List (BitVec 64), (fun k => (runL (List.replicate 4 0) (sc.take k)).2) = ST := ⟨_, rfl⟩
  have HS4 : Hid (∀ k, (ST k).length = 4) := by refine Lib.hid ?_; subst hST; intro k; simp [runL_snd_length]
  obtain ⟨IN, hIN⟩ : ∃ IN : Nat → List Bool, (fun k => inSet (ST k)) = IN := ⟨_, rfl⟩
  have HIL : Hid (∀ k, (IN k).length = 256) := by refine Lib.hid ?_; subst hIN; intro k; exact inSet_length
  have HNX : Hid (∀ k (h : k < sc.length) (x : BitVec 8) (p : Bool), sc[k] = bitCall x p → IN (k + 1) = (IN k).set x.toNat p) := by
    refine Lib.hid fun k h x p hd => ?_
    rw [← hIN]
    simp only
    rw [← inSet_step (HS4.out k) x p, ← hST]
    simp only
    rw [runL_take_succ h, hd]
  have HI0 : Hid (IN 0 = List.replicate 256 false) := by
    refine Lib.hid ?_
    rw [← hIN, ← hST]
    simp only [List.take_zero, runL]
    apply List.ext_getElem
    · simp [inSet]
    · intro i h1 h2
      simp only [inSet, List.getElem_map, List.getElem_range, List.getElem_replicate]
      unfold has
      have : (List.replicate 4 (0 : BitVec 64)).getD (i / 64) 0 = 0 := by
        rw [List.getD_eq_getElem?_getD, List.getElem?_replicate]
        split <;> rfl
      rw [this]
      simp
  have HIG : Hid (∀ k x, x < 256 → (IN k)[x]? = some ((ST k).getD (x / 64) 0 |>.getLsbD (x % 64))) := by
    refine Lib.hid fun k x hx => ?_
    rw [← hIN]
    exact inSet_get hx
  obtain ⟨W, hW⟩ : ∃ W, x0.mapIdx (fun k x => has (ST k) x.toNat) = W := ⟨_, rfl⟩
  have HWL : Hid (W.length = n0) := by show _ = _; rw [← hW, List.length_mapIdx, K0.out.2.1]
  have HWG : Hid (∀ k (h : k < W.length) (h' : k < x0.length), W[k] = has (ST k) x0[k].toNat) := by refine Lib.hid ?_; subst hW; intro k h h'; simp
  have HST := Lib.hid hST
  clear hIN hW hST
  have hp := Lib.hid (((((Owns.nil w w.heap.size).made (Nat.le_refl _) 5 #[] (by simp)).made (by simp) 3 #[] (by simp)).made (by simp; omega) 28 #[] (by simp)).made (by simp; omega) 28 #[] (by simp))
  have hbp := Lib.hid (((((Below.refl w.heap.size w).alloc (Nat.le_refl _) (.cells #[] 5)).alloc (by simp) (.cells #[] 3)).alloc (by simp; omega) (.cells #[] 28)).alloc (by simp; omega) (.cells #[] 28))
  have hsp := hbp.out.size
  go_enter Try.func5, Try.ntmps5
  go_wp2_with (at_make; refine wpList_make_full _ rfl _ _ 33 rfl (w.heap.size + 1 + 1 + 1 + 1) 4 j0 (.bool false) 1 Try.underlying33 hj hy0 hy1 .i64 .i64 _ _ 256 rfl rfl rfl rfl (by rw [hy2]; decide) (by simp only [maxLen]; omega) (by simp) ?_)
  intro w1 ho1 hg1
  rw [made_bool] at ho1
  obtain ⟨hoA, hbA⟩ := hp.out.makes (b := w.heap.size + 1 + 1 + 1 + 1) (by simp; omega) (by simp) ho1 hg1
  have hs1 : w.heap.size + 1 + 1 + 1 + 1 ≤ w1.heap.size := by have := hbA.size; simpa using this
  have O1 := Lib.hid (hoA.made (by omega) 4 #[] (by simp))
  have B1 := Lib.hid ((hbp.out.trans (hbA.mono (by simp; omega))).alloc (by omega) (.cells #[] 4))
  clear ho1 hg1 hoA hbA hp hbp hsp hj hy0 hy1 hy2
  obtain ⟨bI, hbI⟩ : ∃ b, w.heap.size + 1 + 1 + 1 + 1 = b := ⟨_, rfl⟩
  simp only [World.size_alloc] at O1
  rw [hbI] at O1 ⊢
  clear hbI hs1
  go_wp2
  go_loopw [29, 5, 6, 7, 8, 10] (fun i v0 v1 v2 v3 v5 wr => ∃ (k : Nat) (e0 e1 e2 e3 e5 : Option Addr) (g0 g1 g2 g3 g5 : Nat), k ≤ n0 ∧ i = .int .i64 k ∧ v0 = .slice e0 k g0 ∧ v1 = .slice e1 k g1 ∧ v2 = .slice e2 k g2 ∧ v3 = .slice e3 k g3 ∧ v5 = .slice e5 k g5 ∧ Owns wr w.heap.size [⟨4, some ⟨bI, 0, none⟩, 256, 256, BL (IN k)⟩, ⟨4, e5, k, g5, BL (W.take k)⟩, ⟨5, e0, k, g0, U8 (kindsOf (sc.take k))⟩, ⟨3, e1, k, g1, NI (cellsOf (sc.take k))⟩, ⟨28, e2, k, g2, U (asOf (sc.take k))⟩, ⟨28, e3, k, g3, U (bsOf (sc.take k))⟩] ∧ Below w.heap.size w wr) (fun i _ _ _ _ _ _ => n0 - (intOf i).toNat)
  case atStart =>
    refine ⟨0, _, _, _, _, _, _, _, _, _, _, Nat.zero_le _, rfl, rfl, rfl, rfl, rfl, rfl, ?_, B1.out⟩
    have h1 := O1.out
    rw [HI0.out]
    simp only [List.nil_append, List.cons_append, List.size_toArray, List.length_nil] at h1
    have key : ∀ (a b c d e f : Row), List.Perm [a, b, c, d, e, f] [e, f, a, b, c, d] := fun a b c d e f => List.perm_append_comm (l₁ := [a, b, c, d]) (l₂ := [e, f])
    simpa [kindsOf, cellsOf, asOf, bsOf] using h1.perm (key _ _ _ _ _ _)
  case round =>
    clear O1 B1
    obtain ⟨k, e0, e1, e2, e3, e5, g0, g1, g2, g3, g5, hk, rfl, rfl, rfl, rfl, rfl, rfl, ho, hb⟩ := hrel
    have hsz := hb.size
    by_cases hlt : k < n0
    · have lx : k < x0.length := by rw [K0.out.2.1]; exact hlt
      have ls : k < sc.length := by rw [HL.out]; exact hlt
      have lW : k < W.length := by rw [HWL.out]; exact hlt
      obtain ⟨ba, oa, rfl, q0⟩ := at_u8 K0.out.1 hb (Nat.le_refl _) lx
      obtain ⟨x, hx⟩ : ∃ x, x0[k] = x := ⟨_, rfl⟩
      rw [hx] at q0
      have bx := x.isLt
      obtain ⟨q, hq0⟩ : ∃ q, x.toNat % 64 = q := ⟨_, rfl⟩
      have bq : q < 64 := by omega
      have hq : (x.toNat : Int) % 64 = (q : Int) := by rw [← hq0]; simp
      obtain ⟨cq, hcq0⟩ : ∃ c, x.toNat / 64 = c := ⟨_, rfl⟩
      have hcq : (x.toNat : Int) / 64 = (cq : Int) := by rw [← hcq0]; simp
      have HQC := Lib.hid hcq0
      have hp2 : (2 : Nat) ^ q < 2 ^ 64 := Nat.pow_lt_pow_right (by decide) bq
      have hbv : ((BitVec.ofNat 64 (2 ^ q)).toNat : Int) = 2 ^ q := by
        rw [BitVec.toNat_ofNat, Nat.mod_eq_of_lt hp2]
        simp
      obtain ⟨was, hwas⟩ : ∃ b, has (ST k) x.toNat = b := ⟨_, rfl⟩
      have HWK : Hid ((IN k)[x.toNat]? = some was) := by
        refine Lib.hid ?_
        rw [HIG.out k x.toNat (by omega), ← hwas]
        rfl
      have HWT : Hid (BL (W.take (k + 1)) = BL (W.take k) ++ [.bool was]) := by
        refine Lib.hid ?_
        rw [List.take_succ_eq_append_getElem lW, BL_snoc, HWG.out k lW lx, hx, hwas]
      obtain ⟨hnt1, hnt2⟩ := and_not_val q
      have hsh : IntKind.u64.wrap (2 ^ q) = ((BitVec.ofNat 64 (2 ^ q)).toNat : Int) := by
        rw [hbv, IntKind.wrap_u64]
        have : ((2 ^ q : Nat) : Int) < ((2 ^ 64 : Nat) : Int) := Int.ofNat_lt.2 hp2
        have h0 : (0 : Int) ≤ 2 ^ q := Int.pow_nonneg (by decide)
        simp at this
        omega
      have HVA : Hid ((bitCall x true).a = BitVec.ofNat 64 (2 ^ q) ∧ (bitCall x false).a = ~~~BitVec.ofNat 64 (2 ^ q)) := by refine Lib.hid ?_; simp [bitCall, hq0]
      obtain ⟨bv, hbvE⟩ : ∃ bv, BitVec.ofNat 64 (2 ^ q) = bv := ⟨_, rfl⟩
      rw [hbvE] at hsh hnt1 hnt2 HVA
      obtain ⟨nv, hnvE⟩ : ∃ nv, ~~~bv = nv := ⟨_, rfl⟩
      rw [hnvE] at hnt1 hnt2 HVA
      have HO := Lib.hid ho; have HB := Lib.hid hb
      clear ho hwas hq0 hcq0 hp2 hbv hbvE hnvE
      by_cases hk1 : n1 ≤ k
      · have hx2 : pk k = true := by rw [← HPK.out]; simp [hk1]
        clear hb
        have HD : Hid (sc[k] = bitCall x true) := by
          refine Lib.hid ?_
          rw [HG.out k ls lx, hx, hx2]
        have HIN : Hid ((IN (k + 1)) = (IN k).set x.toNat true) := by
          refine Lib.hid ?_
          exact HNX.out k ls _ _ HD.out
        clear hx hx2
        go_wp2_with (at_builtin; refine app5s [_, _] [_, _, _] (.tmp 50) (.tmp 51) rfl rfl wr.heap.size rfl rfl rfl HO.out rfl (by omega) (by omega) ?_)
        intro f0 j0 u1 ho1 hb1 hs1
        have HO1 := Lib.hid ho1; have HB1 := Lib.hid (HB.out.trans hb1)
        clear ho1 hb1 HO HB q0
        go_wp2_with (at_builtin; refine app30s [_, _, _, _] [_] (.tmp 53) (.tmp 55) rfl rfl u1.heap.size rfl rfl rfl HO1.out rfl (by omega) (by omega) ?_)
        intro f2 j2 u2 ho2 hb2 hs2
        have HO2 := Lib.hid ho2; have HB2 := Lib.hid (HB1.out.trans hb2)
        clear ho2 hb2 HO1 HB1
        go_wp2_with (at_builtin; refine app3s [_, _, _] [_, _] (.tmp 65) (.tmp 69) rfl rfl u2.heap.size rfl rfl rfl HO2.out rfl (by omega) (by omega) ?_)
        intro f1 j1 u3 ho3 hb3 hs3
        have HO3 := Lib.hid ho3; have HB3 := Lib.hid (HB2.out.trans hb3)
        clear ho3 hb3 HO2 HB2
        go_wp2_with (at_builtin; refine app30s [_, _, _, _, _] [] (.tmp 71) (.tmp 72) rfl rfl u3.heap.size rfl rfl rfl HO3.out rfl (by omega) (by omega) ?_)
        intro f3 j3 u4 ho4 hb4 hs4
        have hR := Lib.hid (rows_step (p := [_, _]) ls HD.out rfl rfl (by rw [bitCall_cell, HQC.out]) (by rw [HVA.out.1]) rfl ho4)
        have HB4 := Lib.hid (HB3.out.trans hb4)
        clear ho4 hb4 HO3 HB3
        have q9 := hR.out.getB 0 rfl (k := x.toNat) (v := was) HWK.out
        go_wp2_with (at_builtin; refine appBs [_] [_, _, _, _] (.tmp 74) (.tmp 79) rfl rfl u4.heap.size rfl rfl rfl hR.out rfl (by omega) (by omega) ?_)
        intro f5 j5 u5 ho5 hb5 hs5
        have f9 := ho5.free 0 rfl x.toNat
        obtain ⟨u9, q9'⟩ := ho5.has 0 rfl (k := x.toNat) (by simp [HIL.out]; omega)
        obtain ⟨ho6, hb6⟩ := Owns.stored (p := []) ho5 rfl x.toNat (.bool true)
        have HR6 : Hid (Owns (u5.setCell ⟨bI, x.toNat, none⟩ (.bool true)) w.heap.size [⟨4, some ⟨bI, 0, none⟩, 256, 256, BL (IN (k + 1))⟩, ⟨4, f5, k + 1, j5, BL (W.take (k + 1))⟩, ⟨5, f0, k + 1, j0, U8 (kindsOf (sc.take (k + 1)))⟩, ⟨3, f1, k + 1, j1, NI (cellsOf (sc.take (k + 1)))⟩, ⟨28, f2, k + 1, j2, U (asOf (sc.take (k + 1)))⟩, ⟨28, f3, k + 1, j3, U (bsOf (sc.take (k + 1)))⟩]) := by
          refine Lib.hid ?_
          rw [HIN.out, HWT.out, ← BL_set]
          exact ho6
        have HT6 := Lib.hid (HB4.out.trans (hb5.trans hb6))
        clear ho5 ho6 hb5 hb6 hR HB4 q9
        go_wp2
        go_roundw
        case rel => exact ⟨k + 1, f0, f1, f2, f3, f5, j0, j1, j2, j3, j5, by omega, by go_num, rfl, rfl, rfl, rfl, rfl, HR6.out, HT6.out⟩
        case measure => simp [intOf]; omega
      · have l1 : k < x1.length := by rw [K1.out.2.1]; omega
        obtain ⟨bp, op, rfl, q1⟩ := at_u8 K1.out.1 hb (Nat.le_refl _) l1
        obtain ⟨p, hp⟩ : ∃ p, x1[k] = p := ⟨_, rfl⟩
        rw [hp] at q1
        have hpg : x1.getD k 0 = p := by rw [← hp]; simp [l1]
        obtain ⟨r, hr⟩ : ∃ r, p.toNat % 3 = r := ⟨_, rfl⟩
        have hre : (p.toNat : Int) % 3 = (r : Int) := by rw [← hr]; simp
        have hkl : k < n1 := by omega
        by_cases h0 : 0 < r
        · have hx2 : pk k = true := by rw [← HPK.out]; simp only [hk1, decide_false, Bool.false_or, hpg, hr, h0, decide_true]
          clear hb hp hpg hr
          have HD : Hid (sc[k] = bitCall x true) := by
            refine Lib.hid ?_
            rw [HG.out k ls lx, hx, hx2]
          have HIN : Hid ((IN (k + 1)) = (IN k).set x.toNat true) := by
            refine Lib.hid ?_
            exact HNX.out k ls _ _ HD.out
          clear hx hx2
          go_wp2_with (at_builtin; refine app5s [_, _] [_, _, _] (.tmp 50) (.tmp 51) rfl rfl wr.heap.size rfl rfl rfl HO.out rfl (by omega) (by omega) ?_)
          intro f0 j0 u1 ho1 hb1 hs1
          have HO1 := Lib.hid ho1; have HB1 := Lib.hid (HB.out.trans hb1)
          clear ho1 hb1 HO HB q0
          go_wp2_with (at_builtin; refine app30s [_, _, _, _] [_] (.tmp 53) (.tmp 55) rfl rfl u1.heap.size rfl rfl rfl HO1.out rfl (by omega) (by omega) ?_)
          intro f2 j2 u2 ho2 hb2 hs2
          have HO2 := Lib.hid ho2; have HB2 := Lib.hid (HB1.out.trans hb2)
          clear ho2 hb2 HO1 HB1
          go_wp2_with (at_builtin; refine app3s [_, _, _] [_, _] (.tmp 65) (.tmp 69) rfl rfl u2.heap.size rfl rfl rfl HO2.out rfl (by omega) (by omega) ?_)
          intro f1 j1 u3 ho3 hb3 hs3
          have HO3 := Lib.hid ho3; have HB3 := Lib.hid (HB2.out.trans hb3)
          clear ho3 hb3 HO2 HB2
          go_wp2_with (at_builtin; refine app30s [_, _, _, _, _] [] (.tmp 71) (.tmp 72) rfl rfl u3.heap.size rfl rfl rfl HO3.out rfl (by omega) (by omega) ?_)
          intro f3 j3 u4 ho4 hb4 hs4
          have hR := Lib.hid (rows_step (p := [_, _]) ls HD.out rfl rfl (by rw [bitCall_cell, HQC.out]) (by rw [HVA.out.1]) rfl ho4)
          have HB4 := Lib.hid (HB3.out.trans hb4)
          clear ho4 hb4 HO3 HB3
          have q9 := hR.out.getB 0 rfl (k := x.toNat) (v := was) HWK.out
          go_wp2_with (at_builtin; refine appBs [_] [_, _, _, _] (.tmp 74) (.tmp 79) rfl rfl u4.heap.size rfl rfl rfl hR.out rfl (by omega) (by omega) ?_)
          intro f5 j5 u5 ho5 hb5 hs5
          have f9 := ho5.free 0 rfl x.toNat
          obtain ⟨u9, q9'⟩ := ho5.has 0 rfl (k := x.toNat) (by simp [HIL.out]; omega)
          obtain ⟨ho6, hb6⟩ := Owns.stored (p := []) ho5 rfl x.toNat (.bool true)
          have HR6 : Hid (Owns (u5.setCell ⟨bI, x.toNat, none⟩ (.bool true)) w.heap.size [⟨4, some ⟨bI, 0, none⟩, 256, 256, BL (IN (k + 1))⟩, ⟨4, f5, k + 1, j5, BL (W.take (k + 1))⟩, ⟨5, f0, k + 1, j0, U8 (kindsOf (sc.take (k + 1)))⟩, ⟨3, f1, k + 1, j1, NI (cellsOf (sc.take (k + 1)))⟩, ⟨28, f2, k + 1, j2, U (asOf (sc.take (k + 1)))⟩, ⟨28, f3, k + 1, j3, U (bsOf (sc.take (k + 1)))⟩]) := by
            refine Lib.hid ?_
            rw [HIN.out, HWT.out, ← BL_set]
            exact ho6
          have HT6 := Lib.hid (HB4.out.trans (hb5.trans hb6))
          clear ho5 ho6 hb5 hb6 hR HB4 q9
          go_wp2
          go_roundw
          case rel => exact ⟨k + 1, f0, f1, f2, f3, f5, j0, j1, j2, j3, j5, by omega, by go_num, rfl, rfl, rfl, rfl, rfl, HR6.out, HT6.out⟩
          case measure => simp [intOf]; omega
        · have hx2 : pk k = false := by rw [← HPK.out]; simp only [hk1, decide_false, Bool.false_or, hpg, hr, h0]
          obtain rfl : r = 0 := by omega
          clear hb hp hpg hr
          have HD : Hid (sc[k] = bitCall x false) := by
            refine Lib.hid ?_
            rw [HG.out k ls lx, hx, hx2]
          have HIN : Hid ((IN (k + 1)) = (IN k).set x.toNat false) := by
            refine Lib.hid ?_
            exact HNX.out k ls _ _ HD.out
          clear hx hx2
          go_wp2_with (at_builtin; refine app5s [_, _] [_, _, _] (.tmp 57) (.tmp 58) rfl rfl wr.heap.size rfl rfl rfl HO.out rfl (by omega) (by omega) ?_)
          intro f0 j0 u1 ho1 hb1 hs1
          have HO1 := Lib.hid ho1; have HB1 := Lib.hid (HB.out.trans hb1)
          clear ho1 hb1 HO HB q0
          go_wp2_with (at_builtin; refine app30s [_, _, _, _] [_] (.tmp 60) (.tmp 63) rfl rfl u1.heap.size rfl rfl rfl HO1.out rfl (by omega) (by omega) ?_)
          intro f2 j2 u2 ho2 hb2 hs2
          have HO2 := Lib.hid ho2; have HB2 := Lib.hid (HB1.out.trans hb2)
          clear ho2 hb2 HO1 HB1
          go_wp2_with (at_builtin; refine app3s [_, _, _] [_, _] (.tmp 65) (.tmp 69) rfl rfl u2.heap.size rfl rfl rfl HO2.out rfl (by omega) (by omega) ?_)
          intro f1 j1 u3 ho3 hb3 hs3
          have HO3 := Lib.hid ho3; have HB3 := Lib.hid (HB2.out.trans hb3)
          clear ho3 hb3 HO2 HB2
          go_wp2_with (at_builtin; refine app30s [_, _, _, _, _] [] (.tmp 71) (.tmp 72) rfl rfl u3.heap.size rfl rfl rfl HO3.out rfl (by omega) (by omega) ?_)
          intro f3 j3 u4 ho4 hb4 hs4
          have hR := Lib.hid (rows_step (p := [_, _]) ls HD.out rfl rfl (by rw [bitCall_cell, HQC.out]) (by rw [HVA.out.2]) rfl ho4)
          have HB4 := Lib.hid (HB3.out.trans hb4)
          clear ho4 hb4 HO3 HB3
          have q9 := hR.out.getB 0 rfl (k := x.toNat) (v := was) HWK.out
          go_wp2_with (at_builtin; refine appBs [_] [_, _, _, _] (.tmp 74) (.tmp 79) rfl rfl u4.heap.size rfl rfl rfl hR.out rfl (by omega) (by omega) ?_)
          intro f5 j5 u5 ho5 hb5 hs5
          have f9 := ho5.free 0 rfl x.toNat
          obtain ⟨u9, q9'⟩ := ho5.has 0 rfl (k := x.toNat) (by simp [HIL.out]; omega)
          obtain ⟨ho6, hb6⟩ := Owns.stored (p := []) ho5 rfl x.toNat (.bool false)
          have HR6 : Hid (Owns (u5.setCell ⟨bI, x.toNat, none⟩ (.bool false)) w.heap.size [⟨4, some ⟨bI, 0, none⟩, 256, 256, BL (IN (k + 1))⟩, ⟨4, f5, k + 1, j5, BL (W.take (k + 1))⟩, ⟨5, f0, k + 1, j0, U8 (kindsOf (sc.take (k + 1)))⟩, ⟨3, f1, k + 1, j1, NI (cellsOf (sc.take (k + 1)))⟩, ⟨28, f2, k + 1, j2, U (asOf (sc.take (k + 1)))⟩, ⟨28, f3, k + 1, j3, U (bsOf (sc.take (k + 1)))⟩]) := by
            refine Lib.hid ?_
            rw [HIN.out, HWT.out, ← BL_set]
            exact ho6
          have HT6 := Lib.hid (HB4.out.trans (hb5.trans hb6))
          clear ho5 ho6 hb5 hb6 hR HB4 q9
          go_wp2
          go_roundw
          case rel => exact ⟨k + 1, f0, f1, f2, f3, f5, j0, j1, j2, j3, j5, by omega, by go_num, rfl, rfl, rfl, rfl, rfl, HR6.out, HT6.out⟩
          case measure => simp [intOf]; omega
    · rw [List.take_of_length_le (l := sc) (by rw [HL.out]; omega), List.take_of_length_le (l := W) (by rw [HWL.out]; omega)] at ho
      have hkn : n0 = k := by omega
      subst hkn
      obtain ⟨AN, hAN⟩ : ∃ A, (runL (List.replicate 4 0) sc).1 = A := ⟨_, rfl⟩
      obtain ⟨LA, hLA⟩ : ∃ A, (runL (List.replicate 4 0) sc).2 = A := ⟨_, rfl⟩
      have HLN : Hid (AN.length = n0) := by show _ = _; rw [← hAN, runL_fst_length, HL.out]
      have HL4 : Hid (LA.length = 4) := by show _ = _; rw [← hLA, runL_snd_length, List.length_replicate]
      have HLS : Hid (ST n0 = LA) := by
        refine Lib.hid ?_
        rw [← HST.out, ← hLA]
        simp only
        rw [List.take_of_length_le (by rw [HL.out]; omega)]
      have HAT : Hid (∀ j (h : j < AN.length) (h' : j < x0.length), AN[j] = (ST j).getD (x0[j].toNat / 64) 0) := by
        refine Lib.hid fun j h h' => ?_
        have hj : j < sc.length := by rw [HL.out, ← HLN.out]; exact h
        have e : (runL (List.replicate 4 0) (sc.take (j + 1))).1 = AN.take (j + 1) := by
          have h2 := runL_append (st := List.replicate 4 0) (cs := sc.take (j + 1)) (ds := sc.drop (j + 1))
          rw [List.take_append_drop] at h2
          rw [← hAN, h2]
          simp only
          rw [List.take_append_of_le_length (by rw [runL_fst_length]; simp; omega)]
          refine (List.take_of_length_le ?_).symm
          rw [runL_fst_length]
          simp
          omega
        have e2 : (AN.take (j + 1))[j]? = some AN[j] := by rw [List.getElem?_take, if_pos (by omega), List.getElem?_eq_getElem h]
        rw [← e, runL_take_succ hj] at e2
        simp only at e2
        rw [List.getElem?_append_right (by rw [runL_fst_length]; simp; omega)] at e2
        have e3 : j - (runL (List.replicate 4 (0 : BitVec 64)) (sc.take j)).1.length = 0 := by rw [runL_fst_length]; simp; omega
        rw [e3, HG.out j hj h', bitCall_step, bitCall_cell] at e2
        simp only [List.getElem?_cons_zero, Option.some.injEq] at e2
        rw [← e2, ← HST.out]
      have HAN := Lib.hid hAN; have HLA := Lib.hid hLA
      clear hAN hLA HNX HI0 HPK
      obtain ⟨w1, rfl⟩ : ∃ w1 : World, w1 = wr := ⟨_, rfl⟩
      have O1 := Lib.hid ho; have B1 := Lib.hid hb; have hz1' := hsz
      clear ho hb hsz
      go_wp2_with (at_make; refine wpList_make_full _ rfl _ _ 22 rfl w1.heap.size 28 i0 (.int .u64 0) 1 Try.underlying22 hi hz0 hz1 .i64 .i64 _ _ 4 rfl rfl rfl rfl (by rw [hz2]; decide) (by simp only [maxLen]; omega) (Nat.le_refl _) ?_)
      intro w2 ho2 hg2
      rw [made_u64] at ho2
      obtain ⟨hoA, hbA⟩ := O1.out.makes (b := w1.heap.size) hz1' rfl ho2 hg2
      have O2 := Lib.hid hoA
      have B2 := Lib.hid (Below.more B1.out hbA hz1')
      have hz2' : w.heap.size ≤ w2.heap.size := B2.out.size
      clear ho2 hg2 hoA hbA O1 B1
      obtain ⟨nb, hnb⟩ : ∃ nb, w1.heap.size = nb := ⟨_, rfl⟩
      rw [hnb] at O2 ⊢
      clear hnb hi hz0 hz1 hz2
      have hz2 := hz2'
      clear hz2' hz1'
      go_wp2_with fail
      refine (run64_any w2 (some ⟨nb, 0, none⟩) e0 e1 e2 e3 4 g0 g1 g2 g3 4 n0 (List.replicate 4 0) sc rfl HL.out (O2.out.rdAt 6 rfl) (O2.out.rdAt 2 rfl) (O2.out.rdAt 3 rfl) (O2.out.rdAt 4 rfl) (O2.out.rdAt 5 rfl) (by omega) (by omega) HC.out).mono ?_
      rintro e w3 ⟨s1, d1, s2, d2, rfl, ho, hb⟩
      have O3 := Lib.hid (O2.out.more hb ho hz2); have B3 := Lib.hid (Below.more B2.out hb hz2)
      have hz3 : w.heap.size ≤ w3.heap.size := B3.out.size
      clear ho hb O2 B2 hz2
      rw [HAN.out, HLA.out] at O3
      have O4 := Lib.hid (O3.out.drop (L' := [⟨4, some ⟨bI, 0, none⟩, 256, 256, BL (IN n0)⟩, ⟨4, e5, n0, g5, BL W⟩, ⟨28, s1, n0, d1, U AN⟩, ⟨28, s2, 4, d2, U LA⟩]) (by repeat (first | exact List.nil_sublist _ | apply List.Sublist.cons_cons | apply List.Sublist.cons)))
      clear O3
      have t1 : ((n0 : Int) != (n0 : Int)) = false := by simp
      go_wp2
      go_loopw [107] (fun i wr => ∃ k : Nat, k ≤ n0 ∧ i = .int .i64 k ∧ Owns wr w.heap.size [⟨4, some ⟨bI, 0, none⟩, 256, 256, BL (IN n0)⟩, ⟨4, e5, n0, g5, BL W⟩, ⟨28, s1, n0, d1, U AN⟩, ⟨28, s2, 4, d2, U LA⟩] ∧ Below w.heap.size w wr) (fun i _ => n0 - (intOf i).toNat)
      case atStart => exact ⟨0, Nat.zero_le _, rfl, O4.out, B3.out⟩
      case round =>
        clear O4 B3 hz3
        obtain ⟨k, hk, rfl, ho, hb⟩ := hrel
        by_cases hlt : k < n0
        · have lx : k < x0.length := by rw [K0.out.2.1]; exact hlt
          have la : k < AN.length := by rw [HLN.out]; exact hlt
          have lW : k < W.length := by rw [HWL.out]; exact hlt
          obtain ⟨ba, oa, rfl, q0⟩ := at_u8 K0.out.1 hb (Nat.le_refl _) lx
          obtain ⟨x, hx⟩ : ∃ x, x0[k] = x := ⟨_, rfl⟩
          rw [hx] at q0
          have bx := x.isLt
          obtain ⟨q, hq0⟩ : ∃ q, x.toNat % 64 = q := ⟨_, rfl⟩
          have bq : q < 64 := by omega
          have hq : (x.toNat : Int) % 64 = (q : Int) := by rw [← hq0]; simp
          obtain ⟨b1, rfl⟩ := ho.addr 2 rfl (k := k) (by simpa using la)
          obtain ⟨b5, rfl⟩ := ho.addr 1 rfl (k := k) (by simpa using lW)
          have q1 := ho.get64 2 rfl la
          have q5 := ho.getB 1 rfl (k := k) (v := W[k]) (List.getElem?_eq_getElem lW)
          obtain ⟨v, hv⟩ : ∃ v, AN[k] = v := ⟨_, rfl⟩
          have hop := bit_of v q
          have hw : W[k] = v.getLsbD q := by
            rw [HWG.out k lW lx, hx, ← hv, HAT.out k la lx, hx]
            unfold has
            rw [hq0]
          rw [hw] at q5
          rw [hv] at q1
          have HO := Lib.hid ho; have HB := Lib.hid hb
          clear ho hb hx hq0 hv hw
          cases hbit : v.getLsbD q with
          | true =>
            rw [hbit] at q5 hop
            simp only [if_true] at hop
            clear hbit
            go_wp2
            go_quiet (fail)
            go_wp2
            go_roundw
            case rel => exact ⟨k + 1, by omega, by go_num, HO.out.drewN _, below_drewN HB.out _⟩
            case measure => simp [intOf]; omega
          | false =>
            rw [hbit] at q5 hop
            simp only [Bool.false_eq_true, if_false] at hop
            clear hbit
            go_wp2
            go_quiet (fail)
            go_wp2
            go_roundw
            case rel => exact ⟨k + 1, by omega, by go_num, HO.out.drewN _, below_drewN HB.out _⟩
            case measure => simp [intOf]; omega
        · have HO := Lib.hid ho; have HB := Lib.hid hb
          clear ho hb
          obtain ⟨w7, rfl⟩ : ∃ w7 : World, w7 = wr := ⟨_, rfl⟩
          go_wp2
          go_loopw [129] (fun i wr => ∃ k : Nat, k ≤ 256 ∧ i = .int .i64 k ∧ wr = w7) (fun i _ => 256 - (intOf i).toNat)
          case atStart => exact ⟨0, Nat.zero_le _, rfl, rfl⟩
          case round =>
            obtain ⟨x, hk, rfl, rfl⟩ := hrel
            by_cases hlt : x < 256
            · have q5 := HO.out.getB 0 rfl (k := x) (HIG.out n0 x hlt)
              rw [HLS.out] at q5
              have l4 : x / 64 < LA.length := by rw [HL4.out]; omega
              obtain ⟨b2, rfl⟩ := HO.out.addr 3 rfl (k := x / 64) (by simpa using l4)
              have q2 := HO.out.get64 3 rfl l4
              obtain ⟨v, hv⟩ : ∃ v, LA[x / 64] = v := ⟨_, rfl⟩
              have hg : LA.getD (x / 64) 0 = v := by rw [← hv]; simp [l4]
              rw [hg] at q5
              rw [hv] at q2
              obtain ⟨q, hq0⟩ : ∃ q, x % 64 = q := ⟨_, rfl⟩
              have bq : q < 64 := by omega
              have hq : (x : Int) % 64 = (q : Int) := by rw [← hq0]; simp
              obtain ⟨c, hc0⟩ : ∃ c, x / 64 = c := ⟨_, rfl⟩
              have hc : (x : Int) / 64 = (c : Int) := by rw [← hc0]; simp
              have hc4 : c < 4 := by omega
              rw [hq0] at q5
              rw [hc0] at q2
              have hop := bit_of v q
              clear hv hg hq0 hc0 l4
              cases hbit : v.getLsbD q with
              | true =>
                rw [hbit] at q5 hop
                simp only [if_true] at hop
                clear hbit
                go_wp2
                go_roundw
                case rel => exact ⟨x + 1, by omega, by go_num, by first | rfl | trivial⟩
                case measure => simp [intOf]; omega
              | false =>
                rw [hbit] at q5 hop
                simp only [Bool.false_eq_true, if_false] at hop
                clear hbit
                go_wp2
                go_roundw
                case rel => exact ⟨x + 1, by omega, by go_num, by first | rfl | trivial⟩
                case measure => simp [intOf]; omega
            · go_wp2
              go_ret
              exact ⟨rfl, HB.out⟩
end Go.Proofs.Ytjjmjjbeecmmlab
