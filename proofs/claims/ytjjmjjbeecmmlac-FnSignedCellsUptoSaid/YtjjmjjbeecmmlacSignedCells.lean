/-
  The walk of FnSignedCells: a script over numbers with a sign returns, bit for bit, what it returns over numbers without one.
-/
import Derived.Test.YtjjmjjbeecmmlacRunS
import Derived.Test.YtjjmjjbeecmmlacOwn
import Derived.Test.YtjjmjjbeecmmlacSlices
import Derived.Test.YtjjmjjbeecmmlacGrow
import Derived.Test.YtjjmjjbeecmmlacFrame
import Derived.Deep.RegionWith
namespace Go.Proofs.Ytjjmjjbeecmmlac
set_option linter.unusedVariables false
set_option linter.unusedSimpArgs false
open Go.RowKit

theorem infoLI : (Try.prog.info? 46).map (fun i => (i.zero, i.size, i.bytes)) = some (some (.slice none 0 0), 1, 24) := by kernel_rfl
section
variable {w : World} {ops : Array Oper} {rest : List Oper} {o : Oper} {a : Act} {Q : Exit → Act → World → Prop} {B : Nat} (p q : List Row) {ra : Option Addr} {n rc : Nat} {xs : List Value} {v : Value} (s x : Operand)
theorem appIs (hgd : o.guard = none) (ho : o.op = .call { callee := .builtin .append, args := #[s, x], argTypes := #[46, 46] }) (sz : Nat) (hsz : w.heap.size = sz) (hs : a.eval s = .slice ra n rc) (hx : a.eval x = .slice (some ⟨sz, 0, none⟩) 1 1)
    (hown : Owns w B (p ++ ⟨2, ra, n, rc, xs⟩ :: q)) (hv : v.oneCell' = true) (hn : n < 17592186043904) (hB : B ≤ sz)
    (h : ∀ a' c' w', Owns w' B (p ++ ⟨2, a', n + 1, c', xs ++ [v]⟩ :: q) → Below B w w' → sz ≤ w'.heap.size → wpList Try.prog ops Q rest (a.put o.dst (.slice a' (n + 1) c')) w') :
    wpList Try.prog ops Q (o :: rest) a (w.alloc (.cells #[v] 2)) :=
  wpList_append1s Try.underlying46 infoI rfl (by decide) p q s x sz hsz hgd ho hs hx hown hv (by omega) hB h
theorem appLs (hgd : o.guard = none) (ho : o.op = .call { callee := .builtin .append, args := #[s, x], argTypes := #[44, 44] }) (sz : Nat) (hsz : w.heap.size = sz) (hs : a.eval s = .slice ra n rc) (hx : a.eval x = .slice (some ⟨sz, 0, none⟩) 1 1)
    (hown : Owns w B (p ++ ⟨46, ra, n, rc, xs⟩ :: q)) (hv : v.oneCell' = true) (hn : n < 1048576) (hB : B ≤ sz)
    (h : ∀ a' c' w', Owns w' B (p ++ ⟨46, a', n + 1, c', xs ++ [v]⟩ :: q) → Below B w w' → sz ≤ w'.heap.size → wpList Try.prog ops Q rest (a.put o.dst (.slice a' (n + 1) c')) w') :
    wpList Try.prog ops Q (o :: rest) a (w.alloc (.cells #[v] 46)) :=
  wpList_append1s Try.underlying44 infoLI rfl (by decide) p q s x sz hsz hgd ho hs hx hown hv (by omega) hB h
end
theorem Owns.getS {w : World} {B : Nat} {L : List Row} {e : TypeId} {b n c k : Nat} {xs : List (BitVec 64)} (h : Owns w B L) (i : Nat) (hi : L[i]? = some ⟨e, some ⟨b, 0, none⟩, n, c, I64 xs⟩) (hk : k < xs.length) : w.cell? ⟨b, k, none⟩ = some (.int .i64 xs[k].toInt) := by
  obtain ⟨b', hb, hc, _⟩ := h.cellAt i hi (j := k) (by simpa using hk)
  simp only [Option.some.injEq, Addr.mk.injEq, and_true] at hb
  subst hb
  rw [hc, I64_get hk]
theorem Owns.cellIn {w : World} {B : Nat} {L : List Row} {e : TypeId} {b n c k : Nat} {xs : List Value} {v : Value} (h : Owns w B L) (i : Nat) (hi : L[i]? = some ⟨e, some ⟨b, 0, none⟩, n, c, xs⟩) (hv : xs[k]? = some v) : w.cell? ⟨b, k, none⟩ = some v := by
  obtain ⟨b', hb, hc, _⟩ := h.cellAt i hi (j := k) (List.getElem?_eq_some_iff.1 hv).1
  simp only [Option.some.injEq, Addr.mk.injEq, and_true] at hb
  subst hb
  rw [hc, hv]
theorem u64_sign (x : BitVec 64) : IntKind.u64.wrap x.toInt = (x.toNat : Int) := by
  rw [IntKind.wrap_u64, BitVec.toInt_eq_toNat_cond]
  have := x.isLt
  split <;> omega

/-- Rows that hold the lists of LL, with signs. -/
def InnerS (LL : List (List (BitVec 64))) (R : List Row) (j : Nat) : Prop := R.map (fun r => (r.e, r.n, r.xs)) = (LL.take j).map fun l => (2, l.length, I64 l)
theorem InnerS.snoc {LL : List (List (BitVec 64))} {R : List Row} {j n : Nat} (h : InnerS LL R j) (hj : j < LL.length) {l : List (BitVec 64)} (hl : LL[j] = l) (hn : l.length = n) (a : Option Addr) (c : Nat) : InnerS LL (R ++ [⟨2, a, n, c, I64 l⟩]) (j + 1) := by
  unfold InnerS at h ⊢
  rw [List.take_succ_eq_append_getElem hj, List.map_append, List.map_append, h, hl, ← hn]
  rfl
theorem InnerS.three {a b c : List (BitVec 64)} {R : List Row} (h : InnerS [a, b, c] R 3) : ∃ a0 c0 a1 c1 a2 c2, R = [⟨2, a0, a.length, c0, I64 a⟩, ⟨2, a1, b.length, c1, I64 b⟩, ⟨2, a2, c.length, c2, I64 c⟩] := by
  unfold InnerS at h
  match R, h with
  | [⟨e0, a0, n0, c0, x0⟩, ⟨e1, a1, n1, c1, x1⟩, ⟨e2, a2, n2, c2, x2⟩], h =>
    simp at h
    obtain ⟨⟨rfl, rfl, rfl⟩, ⟨rfl, rfl, rfl⟩, rfl, rfl, rfl⟩ := h
    exact ⟨a0, c0, a1, c1, a2, c2, rfl⟩
  | [], h => simp at h
  | [_], h => simp at h
  | [_, _], h => simp at h
  | _ :: _ :: _ :: _ :: _, h => simp at h

set_option maxHeartbeats 16000000 in
set_option maxRecDepth 100000 in
theorem fnSignedCells_any (w : World) (a0 : Option Addr) (n0 c0 : Nat) (x0 : List (BitVec 64)) (k0 : Came w a0 n0 c0 (U x0)) (a1 : Option Addr) (n1 c1 : Nat) (x1 : List (BitVec 8)) (k1 : Came w a1 n1 c1 (U8 x1)) (a2 : Option Addr) (n2 c2 : Nat) (x2 : List (BitVec 64)) (k2 : Came w a2 n2 c2 (U x2)) (bd : n0 + n1 + n2 ≤ 1048576) :
    Calls Try.prog 8 #[.slice a0 n0 c0, .slice a1 n1 c1, .slice a2 n2 c2] w fun e w' => e = .returned (.bool true) ∧ Below w.heap.size w w' := by
  have K0 := Lib.hid k0.u64; have K1 := Lib.hid k1.u8; have K2 := Lib.hid k2.u64
  clear k0 k1 k2
  by_cases h0 : n0 = 0
  · subst h0
    go_enter Try.func8, Try.ntmps8
    go_wp2
    go_ret
    exact ⟨rfl, Below.refl _ _⟩
  have t0 : ((n0 : Int) == 0) = false := by simp; omega
  have t1 : ((n1 : Int) != (n1 : Int)) = false := by simp
  have t2 : ((n0 : Int) != (n0 : Int)) = false := by simp
  have p0 : 0 < n0 := by omega
  obtain ⟨sc, hsc⟩ : ∃ sc, scriptOf x1 x2 n0 = sc := ⟨_, rfl⟩
  have HL : Hid (sc.length = n1) := by show _ = _; rw [← hsc, scriptOf_length, K1.out.2.1]
  have HC : Hid (∀ c ∈ sc, c.cell < n0) := by show ∀ c ∈ sc, _; rw [← hsc]; exact scriptOf_cell p0
  have HSC := Lib.hid hsc
  clear hsc
  obtain ⟨A, hA⟩ : ∃ A, (runL x0 sc).1 = A := ⟨_, rfl⟩
  obtain ⟨S, hS⟩ : ∃ S, (runL x0 sc).2 = S := ⟨_, rfl⟩
  have HLA : Hid (A.length = n1) := by show _ = _; rw [← hA, runL_fst_length, HL.out]
  have HLS : Hid (S.length = n0) := by show _ = _; rw [← hS, runL_snd_length, K0.out.2.1]
  have HA := Lib.hid hA; have HS := Lib.hid hS
  clear hA hS
  have O0 := Lib.hid (Owns.nil w w.heap.size); have B0 := Lib.hid (Below.refl w.heap.size w)
  have hz0 : w.heap.size ≤ w.heap.size := Nat.le_refl _
  go_enter Try.func8, Try.ntmps8
  go_wp2_with fail
  refine (script_any w a1 a2 c1 c2 n0 n1 n2 x1 x2 sc HSC.out K1.out.2.1 K2.out.2.1 K1.out.1 K2.out.1 (by omega) p0 (by omega) (by omega)).mono ?_
  rintro e w1 ⟨s0, d0, s1, d1, s2, d2, s3, d3, rfl, ho, hb⟩
  have O1 := Lib.hid (O0.out.more hb ho hz0); have B1 := Lib.hid (Below.more B0.out hb hz0)
  have hz1 : w.heap.size ≤ w1.heap.size := B1.out.size
  clear ho hb O0 B0 hz0
  go_wp2_with fail
  refine (copied_any a0 c0 n0 x0 w1 (K0.out.1.mono B1.out (Nat.le_refl _)) K0.out.2.1 K0.out.2.2.2 (by omega)).mono ?_
  rintro e w2 ⟨s4, d4, rfl, ho, hb⟩
  have O2 := Lib.hid (O1.out.more hb ho hz1); have B2 := Lib.hid (Below.more B1.out hb hz1)
  have hz2 : w.heap.size ≤ w2.heap.size := B2.out.size
  clear ho hb O1 B1 hz1
  go_wp2_with fail
  refine (run64_any w2 s4 s0 s1 s2 s3 d4 d0 d1 d2 d3 n0 n1 x0 sc K0.out.2.1 HL.out (O2.out.rdAt 4 rfl) (O2.out.rdAt 0 rfl) (O2.out.rdAt 1 rfl) (O2.out.rdAt 2 rfl) (O2.out.rdAt 3 rfl) (by omega) (by omega) HC.out).mono ?_
  rintro e w3 ⟨s5, d5, s6, d6, rfl, ho, hb⟩
  have O3 := Lib.hid (O2.out.more hb ho hz2); have B3 := Lib.hid (Below.more B2.out hb hz2)
  have hz3 : w.heap.size ≤ w3.heap.size := B3.out.size
  clear ho hb O2 B2 hz2
  rw [HA.out, HS.out] at O3
  have hp := Lib.hid ((O3.out.made hz3 46 #[] (by simp)).made (by simp; omega) 23 #[.slice a0 n0 c0, .slice s2 n1 d2, .slice s3 n1 d3] (by simp [maxLen]))
  have hbp := Lib.hid ((B3.out.alloc hz3 (.cells #[] 46)).alloc (by simp; omega) (.cells #[.slice a0 n0 c0, .slice s2 n1 d2, .slice s3 n1 d3] 23))
  obtain ⟨bL, hbL⟩ : ∃ b, w3.heap.size + 1 = b := ⟨_, rfl⟩
  clear O3 B3
  go_wp2
  try rw [hbL]
  go_loopw [54, 13] (fun i v wr => ∃ (j : Nat) (e0 : Option Addr) (g0 : Nat) (R : List Row), j ≤ 3 ∧ InnerS [x0, asOf sc, bsOf sc] R j ∧ i = .int .i64 j ∧ v = .slice e0 j g0 ∧ Owns wr w.heap.size ([⟨5, s0, n1, d0, U8 (kindsOf sc)⟩, ⟨3, s1, n1, d1, NI (cellsOf sc)⟩, ⟨22, s2, n1, d2, U (asOf sc)⟩, ⟨22, s3, n1, d3, U (bsOf sc)⟩, ⟨22, s4, n0, d4, U x0⟩, ⟨22, s5, n1, d5, U A⟩, ⟨22, s6, n0, d6, U S⟩, ⟨23, some ⟨bL, 0, none⟩, 3, 3, [.slice a0 n0 c0, .slice s2 n1 d2, .slice s3 n1 d3]⟩] ++ (⟨46, e0, j, g0, R.map Row.val⟩ :: R)) ∧ Below w.heap.size w wr) (fun i _ _ => 3 - (intOf i).toNat)
  case atStart =>
    refine ⟨0, _, _, [], Nat.zero_le _, rfl, rfl, rfl, ?_, hbp.out⟩
    have h1 := hp.out
    rw [World.size_alloc, hbL] at h1
    refine (h1.perm ?_)
    simpa using List.Perm.swap _ _ _
  case round =>
    clear hp hbp hz3 hbL
    obtain ⟨j, e0, g0, R, hj, hin, rfl, rfl, ho, hb⟩ := hrel
    have hsz := hb.size
    by_cases hlt : j < 3
    · obtain ⟨la, ln, lc, l, hlj, hll, hcell, hrd, hln⟩ : ∃ la ln lc l, [x0, asOf sc, bsOf sc][j] = l ∧ l.length = ln ∧ [Value.slice a0 n0 c0, .slice s2 n1 d2, .slice s3 n1 d3][j]? = some (.slice la ln lc) ∧ (∀ (v : World) (X : List Row), Owns v w.heap.size ([⟨5, s0, n1, d0, U8 (kindsOf sc)⟩, ⟨3, s1, n1, d1, NI (cellsOf sc)⟩, ⟨22, s2, n1, d2, U (asOf sc)⟩, ⟨22, s3, n1, d3, U (bsOf sc)⟩, ⟨22, s4, n0, d4, U x0⟩, ⟨22, s5, n1, d5, U A⟩, ⟨22, s6, n0, d6, U S⟩, ⟨23, some ⟨bL, 0, none⟩, 3, 3, [.slice a0 n0 c0, .slice s2 n1 d2, .slice s3 n1 d3]⟩] ++ X) → Below w.heap.size w v → Rd v la (U l)) ∧ ln ≤ 1048576 := by
        have hj' : j = 0 ∨ j = 1 ∨ j = 2 := by omega
        rcases hj' with rfl | rfl | rfl
        · exact ⟨a0, n0, c0, x0, rfl, K0.out.2.1, rfl, fun v X _ hv => K0.out.1.mono hv (Nat.le_refl _), by omega⟩
        · exact ⟨s2, n1, d2, asOf sc, rfl, by rw [asOf_length, HL.out], rfl, fun v X hv _ => hv.rdAt 2 rfl, by omega⟩
        · exact ⟨s3, n1, d3, bsOf sc, rfl, by rw [bsOf_length, HL.out], rfl, fun v X hv _ => hv.rdAt 3 rfl, by omega⟩
      have q7 := ho.cellIn 7 rfl hcell
      have HLJ := Lib.hid hlj; have HLL := Lib.hid hll; have HRD := Lib.hid hrd; have HIN := Lib.hid hin
      have hp := Lib.hid (ho.made hsz 2 #[] (by simp))
      have hbp := Lib.hid ((Below.refl wr.heap.size wr).alloc (Nat.le_refl _) (.cells #[] 2))
      have HB0 := Lib.hid hb
      clear ho hb hlj hll hcell hrd hin
      obtain ⟨w4, rfl⟩ : ∃ w4 : World, w4 = wr := ⟨_, rfl⟩
      go_wp2
      go_loopw [61, 16] (fun i v wr => ∃ (k : Nat) (e2 : Option Addr) (g2 : Nat), k ≤ ln ∧ i = .int .i64 k ∧ v = .slice e2 k g2 ∧ Owns wr w.heap.size (([⟨5, s0, n1, d0, U8 (kindsOf sc)⟩, ⟨3, s1, n1, d1, NI (cellsOf sc)⟩, ⟨22, s2, n1, d2, U (asOf sc)⟩, ⟨22, s3, n1, d3, U (bsOf sc)⟩, ⟨22, s4, n0, d4, U x0⟩, ⟨22, s5, n1, d5, U A⟩, ⟨22, s6, n0, d6, U S⟩, ⟨23, some ⟨bL, 0, none⟩, 3, 3, [.slice a0 n0 c0, .slice s2 n1 d2, .slice s3 n1 d3]⟩] ++ (⟨46, e0, j, g0, R.map Row.val⟩ :: R)) ++ [⟨2, e2, k, g2, I64 (l.take k)⟩]) ∧ Below w.heap.size w wr) (fun i _ _ => ln - (intOf i).toNat)
      case atStart => exact ⟨0, _, _, Nat.zero_le _, rfl, rfl, by simpa using hp.out, HB0.out.trans (hbp.out.mono hsz)⟩
      case round =>
        clear hp hbp q7
        obtain ⟨k, e2, g2, hk, rfl, rfl, ho, hb⟩ := hrel
        have hsz5 := hb.size
        by_cases hlk : k < ln
        · have lx : k < l.length := by rw [HLL.out]; exact hlk
          obtain ⟨ba, oa, rfl, qa⟩ := at_u64 (HRD.out wr _ (by rw [List.append_assoc] at ho; exact ho) hb) (Below.refl _ _) (Nat.le_refl _) lx
          obtain ⟨x, hx⟩ : ∃ x, l[k] = x := ⟨_, rfl⟩
          rw [hx] at qa
          have HTK : Hid (I64 (l.take (k + 1)) = I64 (l.take k) ++ [.int .i64 x.toInt]) := by refine Lib.hid ?_; rw [List.take_succ_eq_append_getElem lx, I64_snoc, hx]
          have hcv := i64_wrap x
          have HO := Lib.hid ho; have HB := Lib.hid hb
          clear ho hb hx
          go_wp2_with (at_builtin; refine appIs ([⟨5, s0, n1, d0, U8 (kindsOf sc)⟩, ⟨3, s1, n1, d1, NI (cellsOf sc)⟩, ⟨22, s2, n1, d2, U (asOf sc)⟩, ⟨22, s3, n1, d3, U (bsOf sc)⟩, ⟨22, s4, n0, d4, U x0⟩, ⟨22, s5, n1, d5, U A⟩, ⟨22, s6, n0, d6, U S⟩, ⟨23, some ⟨bL, 0, none⟩, 3, 3, [.slice a0 n0 c0, .slice s2 n1 d2, .slice s3 n1 d3]⟩] ++ (⟨46, e0, j, g0, R.map Row.val⟩ :: R)) [] (.tmp 65) (.tmp 68) rfl rfl wr.heap.size rfl rfl rfl HO.out rfl (by omega) (by exact hsz5) ?_)
          intro e3 g3 w5 ho5 hb5 hs5
          have HR : Hid (Owns w5 w.heap.size (([⟨5, s0, n1, d0, U8 (kindsOf sc)⟩, ⟨3, s1, n1, d1, NI (cellsOf sc)⟩, ⟨22, s2, n1, d2, U (asOf sc)⟩, ⟨22, s3, n1, d3, U (bsOf sc)⟩, ⟨22, s4, n0, d4, U x0⟩, ⟨22, s5, n1, d5, U A⟩, ⟨22, s6, n0, d6, U S⟩, ⟨23, some ⟨bL, 0, none⟩, 3, 3, [.slice a0 n0 c0, .slice s2 n1 d2, .slice s3 n1 d3]⟩] ++ (⟨46, e0, j, g0, R.map Row.val⟩ :: R)) ++ [⟨2, e3, k + 1, g3, I64 (l.take (k + 1))⟩])) := by
            refine Lib.hid ?_
            rw [HTK.out]
            exact ho5
          have HT := Lib.hid (HB.out.trans hb5)
          clear ho5 hb5 HO HB
          go_wp2
          go_roundw
          case rel => exact ⟨k + 1, e3, g3, by omega, by go_num, rfl, HR.out, HT.out⟩
          case measure => simp [intOf]; omega
        · have hkn : ln = k := by omega
          subst hkn
          rw [List.take_of_length_le (by rw [HLL.out]; omega)] at ho
          have HO := Lib.hid ho; have HB := Lib.hid hb
          have HI2 := Lib.hid (HIN.out.snoc (by simpa using hlt) HLJ.out HLL.out e2 g2)
          clear ho hb
          go_wp2_with (at_builtin; refine appLs [⟨5, s0, n1, d0, U8 (kindsOf sc)⟩, ⟨3, s1, n1, d1, NI (cellsOf sc)⟩, ⟨22, s2, n1, d2, U (asOf sc)⟩, ⟨22, s3, n1, d3, U (bsOf sc)⟩, ⟨22, s4, n0, d4, U x0⟩, ⟨22, s5, n1, d5, U A⟩, ⟨22, s6, n0, d6, U S⟩, ⟨23, some ⟨bL, 0, none⟩, 3, 3, [.slice a0 n0 c0, .slice s2 n1 d2, .slice s3 n1 d3]⟩] (R ++ [(⟨2, e2, ln, g2, I64 l⟩ : Row)]) (.tmp 71) (.tmp 73) rfl rfl wr.heap.size rfl rfl rfl (by have h1 := HO.out; rw [List.append_assoc] at h1; exact h1) rfl (by omega) (by exact hsz5) ?_)
          intro e3 g3 w5 ho5 hb5 hs5
          have HR : Hid (Owns w5 w.heap.size ([⟨5, s0, n1, d0, U8 (kindsOf sc)⟩, ⟨3, s1, n1, d1, NI (cellsOf sc)⟩, ⟨22, s2, n1, d2, U (asOf sc)⟩, ⟨22, s3, n1, d3, U (bsOf sc)⟩, ⟨22, s4, n0, d4, U x0⟩, ⟨22, s5, n1, d5, U A⟩, ⟨22, s6, n0, d6, U S⟩, ⟨23, some ⟨bL, 0, none⟩, 3, 3, [.slice a0 n0 c0, .slice s2 n1 d2, .slice s3 n1 d3]⟩] ++ (⟨46, e3, j + 1, g3, (R ++ [(⟨2, e2, ln, g2, I64 l⟩ : Row)]).map Row.val⟩ :: (R ++ [(⟨2, e2, ln, g2, I64 l⟩ : Row)])))) := by
            refine Lib.hid ?_
            rw [List.map_append]
            exact ho5
          have HT := Lib.hid (HB.out.trans hb5)
          clear ho5 hb5 HO HB
          go_wp2
          go_roundw
          case rel => exact ⟨j + 1, e3, g3, _, by omega, HI2.out, by go_num, rfl, HR.out, HT.out⟩
          case measure => simp [intOf]; omega
    · have hj3 : j = 3 := by omega
      subst hj3
      obtain ⟨r0, f0, r1, f1, r2, f2, rfl⟩ := hin.three
      rw [K0.out.2.1, asOf_length, bsOf_length, HL.out] at ho
      obtain ⟨b8, rfl⟩ := ho.addr 8 rfl (k := 0) (by simp)
      have q0 := ho.cellIn 8 rfl (k := 0) (v := .slice r0 n0 f0) rfl
      have q1 := ho.cellIn 8 rfl (k := 1) (v := .slice r1 n1 f1) rfl
      have q2 := ho.cellIn 8 rfl (k := 2) (v := .slice r2 n1 f2) rfl
      have HO := Lib.hid ho; have HB := Lib.hid hb
      clear ho hb hin hj
      go_wp2
      go_region_with (go_at_call 17; refine (runS_any _ r0 s0 s1 r1 r2 f0 d0 d1 f1 f2 n0 n1 x0 sc K0.out.2.1 HL.out (by exact HO.out.drew.rdAt 9 rfl) (by exact HO.out.drew.rdAt 0 rfl) (by exact HO.out.drew.rdAt 1 rfl) (by exact HO.out.drew.rdAt 10 rfl) (by exact HO.out.drew.rdAt 11 rfl) (by omega) (by omega) HC.out).mono ?_; rintro e w5 ⟨s8, d8, s9, d9, rfl, ho5, hb5⟩)
      all_goals
        rw [HA.out, HS.out] at ho5
        have HO5 := Lib.hid ((HO.out.drew.more hb5 ho5 hsz).drop (L' := [⟨22, s5, n1, d5, U A⟩, ⟨22, s6, n0, d6, U S⟩, ⟨2, s8, n1, d8, I64 A⟩, ⟨2, s9, n0, d9, I64 S⟩]) (by repeat (first | exact List.nil_sublist _ | apply List.Sublist.cons_cons | apply List.Sublist.cons))); have HB5 := Lib.hid (Below.more HB.out.drew hb5 hsz)
        clear ho5 hb5 HO HB q0 q1 q2
        go_wp2
        go_loopw [119] (fun i wr => ∃ k : Nat, k ≤ n1 ∧ i = .int .i64 k ∧ wr = w5) (fun i _ => n1 - (intOf i).toNat)
        case atStart => exact ⟨0, Nat.zero_le _, rfl, rfl⟩
        case round =>
          obtain ⟨k, hk, rfl, rfl⟩ := hrel
          by_cases hlk : k < n1
          · have la : k < A.length := by rw [HLA.out]; exact hlk
            obtain ⟨b5, rfl⟩ := HO5.out.addr 0 rfl (k := k) (by simpa using la)
            obtain ⟨b6, rfl⟩ := HO5.out.addr 2 rfl (k := k) (by simpa using la)
            have q5 := HO5.out.get64 0 rfl la
            have q6 := HO5.out.getS 2 rfl la
            obtain ⟨x, hx⟩ : ∃ x, A[k] = x := ⟨_, rfl⟩
            rw [hx] at q5 q6
            have hcv := u64_sign x
            have tx : ((x.toNat : Int) != (x.toNat : Int)) = false := by simp
            clear hx
            go_wp2
            go_roundw
            case rel => exact ⟨k + 1, by omega, by go_num, by first | rfl | trivial⟩
            case measure => simp [intOf]; omega
          · go_wp2
            go_loopw [134] (fun i w6 => ∃ k : Nat, k ≤ n0 ∧ i = .int .i64 k ∧ w6 = wr) (fun i _ => n0 - (intOf i).toNat)
            case atStart => exact ⟨0, Nat.zero_le _, rfl, rfl⟩
            case round =>
              obtain ⟨k, hk, rfl, rfl⟩ := hrel
              by_cases hlk : k < n0
              · have la : k < S.length := by rw [HLS.out]; exact hlk
                obtain ⟨b5, rfl⟩ := HO5.out.addr 1 rfl (k := k) (by simpa using la)
                obtain ⟨b6, rfl⟩ := HO5.out.addr 3 rfl (k := k) (by simpa using la)
                have q5 := HO5.out.get64 1 rfl la
                have q6 := HO5.out.getS 3 rfl la
                obtain ⟨x, hx⟩ : ∃ x, S[k] = x := ⟨_, rfl⟩
                rw [hx] at q5 q6
                have hcv := u64_sign x
                have tx : ((x.toNat : Int) != (x.toNat : Int)) = false := by simp
                clear hx
                go_wp2
                go_roundw
                case rel => exact ⟨k + 1, by omega, by go_num, by first | rfl | trivial⟩
                case measure => simp [intOf]; omega
              · go_wp2
                go_ret
                exact ⟨rfl, HB5.out⟩
end Go.Proofs.Ytjjmjjbeecmmlac
