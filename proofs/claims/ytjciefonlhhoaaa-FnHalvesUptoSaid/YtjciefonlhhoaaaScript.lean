/-
  The contract of scriptOf: the script that codes and words tell, in four slices of its own.
-/
import Derived.Test.YtjciefonlhhoaaaRun
namespace Go.Proofs.Ytjciefonlhhoaaa
set_option linter.unusedVariables false
set_option linter.unusedSimpArgs false
open Go.RowKit

/-- The two numbers of call k. -/
def wordAt (words : List (BitVec 64)) (k j : Nat) : BitVec 64 := if words = [] then BitVec.ofNat 64 k else words.getD (j % words.length) 0

def scriptOf (codes : List (BitVec 8)) (words : List (BitVec 64)) (n : Nat) : List (Call 64) :=
  codes.mapIdx fun k c => ⟨BitVec.ofNat 8 (c.toNat % 7), c.toNat / 7 % n, wordAt words k (2 * k), wordAt words k (2 * k + 1)⟩

theorem scriptOf_length {codes : List (BitVec 8)} {words : List (BitVec 64)} {n : Nat} : (scriptOf codes words n).length = codes.length := by simp [scriptOf]

theorem scriptOf_cell {codes : List (BitVec 8)} {words : List (BitVec 64)} {n : Nat} (hn : 0 < n) : ∀ c ∈ scriptOf codes words n, c.cell < n := by
  intro c hc
  simp only [scriptOf, List.mem_mapIdx] at hc
  obtain ⟨i, hi, rfl⟩ := hc
  exact Nat.mod_lt _ hn

theorem take_snoc {α : Type} {l : List α} {k : Nat} (h : k < l.length) : l.take (k + 1) = l.take k ++ [l[k]] := List.take_succ_eq_append_getElem h

/-- What scriptOf leaves. -/
def Four (w : World) (n : Nat) (sc : List (Call 64)) (en : Ending) (w' : World) : Prop :=
  ∃ a0 c0 a1 c1 a2 c2 a3 c3, en = .returned (.tuple #[.slice a0 n c0, .slice a1 n c1, .slice a2 n c2, .slice a3 n c3]) ∧
    Owns w' w.heap.size [⟨5, a0, n, c0, U8 (kindsOf sc)⟩, ⟨3, a1, n, c1, NI (cellsOf sc)⟩, ⟨28, a2, n, c2, U (asOf sc)⟩, ⟨28, a3, n, c3, U (bsOf sc)⟩] ∧ Below w.heap.size w w'

theorem script_step {w : World} {B k : Nat} {a0 a1 a2 a3 : Option Addr} {c0 c1 c2 c3 : Nat} {sc : List (Call 64)} (h : k < sc.length) {x0 x1 x2 x3 : Value}
    (e0 : x0 = .int .u8 (sc[k].kind.toNat : Int)) (e1 : x1 = .int .i64 (sc[k].cell : Int)) (e2 : x2 = .int .u64 (sc[k].a.toNat : Int)) (e3 : x3 = .int .u64 (sc[k].b.toNat : Int))
    (ho : Owns w B [⟨5, a0, k + 1, c0, U8 (kindsOf (sc.take k)) ++ [x0]⟩, ⟨3, a1, k + 1, c1, NI (cellsOf (sc.take k)) ++ [x1]⟩, ⟨28, a2, k + 1, c2, U (asOf (sc.take k)) ++ [x2]⟩, ⟨28, a3, k + 1, c3, U (bsOf (sc.take k)) ++ [x3]⟩]) :
    Owns w B [⟨5, a0, k + 1, c0, U8 (kindsOf (sc.take (k + 1)))⟩, ⟨3, a1, k + 1, c1, NI (cellsOf (sc.take (k + 1)))⟩, ⟨28, a2, k + 1, c2, U (asOf (sc.take (k + 1)))⟩, ⟨28, a3, k + 1, c3, U (bsOf (sc.take (k + 1)))⟩] := by
  subst e0 e1 e2 e3
  rw [take_snoc h]
  simp only [kindsOf, cellsOf, asOf, bsOf, List.map_append, List.map_cons, List.map_nil, U_snoc, U8_snoc, NI_snoc]
  exact ho

theorem kind_eq (c : BitVec 8) : Value.int .u8 ((c.toNat : Int) % 7) = .int .u8 ((BitVec.ofNat 8 (c.toNat % 7)).toNat : Int) := by
  have := c.isLt
  rw [BitVec.toNat_ofNat, Nat.mod_eq_of_lt (a := c.toNat % 7) (by omega)]
  simp
theorem cell_eq (c n : Nat) : Value.int .i64 ((c : Int) / 7 % (n : Int)) = .int .i64 ((c / 7 % n : Nat) : Int) := by simp
theorem word_eq {x : Int} {y : BitVec 64} (h : (y.toNat : Int) = x) : Value.int .u64 x = .int .u64 (y.toNat : Int) := by rw [h]
theorem ofNat_toNat_lt {k : Nat} (h : k ≤ 17592186043904) : ((BitVec.ofNat 64 k).toNat : Int) = (k : Int) := by
  rw [BitVec.toNat_ofNat, Nat.mod_eq_of_lt (by omega)]

set_option maxHeartbeats 1600000 in
set_option maxRecDepth 100000 in
theorem scriptOf_any (w : World) (a0 a1 : Option Addr) (c0 c1 n m l : Nat) (codes : List (BitVec 8)) (words : List (BitVec 64)) (hcs : codes.length = m) (hws : words.length = l)
    (r0 : Rd w a0 (U8 codes)) (r1 : Rd w a1 (U words)) (bn : n ≤ 17592186043904) (bn0 : 0 < n) (bm : m ≤ 17592186043904) (bl : l ≤ 17592186043904) :
    Calls Try.prog 4 #[.slice a0 m c0, .slice a1 l c1, .int .i64 n] w (Four w m (scriptOf codes words n)) := by
  obtain ⟨i0, hi, hz0, hz1, hz2⟩ := info_parts info30
  obtain ⟨j0, hj, hy0, hy1, hy2⟩ := info_parts info5
  obtain ⟨k0, hk0, hx0, hx1, hx2⟩ := info_parts info3
  have Hcs := Lib.hid hcs; have Hws := Lib.hid hws; have H0 := Lib.hid r0; have H1 := Lib.hid r1
  clear hcs hws r0 r1
  obtain ⟨sc, hsc⟩ : ∃ sc, scriptOf codes words n = sc := ⟨_, rfl⟩
  have HL : Hid (sc.length = m) := by show _ = _; rw [← hsc, scriptOf_length, Hcs.out]
  have hp := Lib.hid (((((Owns.nil w w.heap.size).made (Nat.le_refl _) 5 #[] (by simp)).made (by simp) 3 #[] (by simp)).made (by simp; omega) 28 #[] (by simp)).made (by simp; omega) 28 #[] (by simp))
  have hbp := Lib.hid (((((Below.refl w.heap.size w).alloc (Nat.le_refl _) (.cells #[] 5)).alloc (by simp) (.cells #[] 3)).alloc (by simp; omega) (.cells #[] 28)).alloc (by simp; omega) (.cells #[] 28))
  rw [hsc]
  have HSC := Lib.hid hsc
  clear hsc
  go_enter Try.func4, Try.ntmps4
  go_wp2
  go_loopw [24, 10, 11, 12, 13] (fun i v0 v1 v2 v3 wr => ∃ (k : Nat) (a0 a1 a2 a3 : Option Addr) (c0 c1 c2 c3 : Nat), k ≤ m ∧ i = .int .i64 k ∧ v0 = .slice a0 k c0 ∧ v1 = .slice a1 k c1 ∧ v2 = .slice a2 k c2 ∧ v3 = .slice a3 k c3 ∧
      Owns wr w.heap.size [⟨5, a0, k, c0, U8 (kindsOf (sc.take k))⟩, ⟨3, a1, k, c1, NI (cellsOf (sc.take k))⟩, ⟨28, a2, k, c2, U (asOf (sc.take k))⟩, ⟨28, a3, k, c3, U (bsOf (sc.take k))⟩] ∧ Below w.heap.size w wr) (fun i _ _ _ _ _ => m - (intOf i).toNat)
  case atStart => exact ⟨0, _, _, _, _, _, _, _, _, Nat.zero_le _, rfl, rfl, rfl, rfl, rfl, by simpa [kindsOf, cellsOf, asOf, bsOf] using hp.out, hbp.out⟩
  case round =>
    clear hp hbp
    obtain ⟨k, d0, d1, d2, d3, e0, e1, e2, e3, hk, rfl, rfl, rfl, rfl, rfl, ho, hb⟩ := hrel
    have hsz := hb.size
    by_cases hlt : k < m
    · have lx : k < codes.length := by rw [Hcs.out]; exact hlt
      have ls : k < sc.length := by rw [HL.out]; exact hlt
      obtain ⟨b0, o0, rfl, hc0⟩ := at_u8 H0.out hb (Nat.le_refl _) lx
      obtain ⟨cd, hcd⟩ : ∃ cd, codes[k] = cd := ⟨_, rfl⟩
      rw [hcd] at hc0
      have bcd := cd.isLt
      have HE : Hid (sc[k] = ⟨BitVec.ofNat 8 (cd.toNat % 7), cd.toNat / 7 % n, wordAt words k (2 * k), wordAt words k (2 * k + 1)⟩) := by
        show _ = _
        have := HSC.out
        subst this
        simp [scriptOf, hcd]
      clear hcd
      by_cases h0 : l = 0
      · have w0 : words = [] := List.eq_nil_of_length_eq_zero (by rw [Hws.out, h0])
        have hA : Hid (∀ j, ((wordAt words k j).toNat : Int) = (k : Int)) := fun j => by simp only [wordAt, if_pos w0]; exact ofNat_toNat_lt (by omega)
        clear w0
        subst h0
        go_wp2_with (first
          | (at_builtin; refine app5 [] [_, _, _] (.tmp 53) (.tmp 56) rfl rfl rfl rfl ho rfl (by omega) (by omega) ?_; intro p0 q0 w1 ho1 hb1 hz1)
          | (at_builtin; refine app3 [_] [_, _] (.tmp 58) (.tmp 64) rfl rfl rfl rfl ho1 rfl (by omega) (by omega) ?_; intro p1 q1 w2 ho2 hb2 hz2)
          | (at_builtin; refine app30 [_, _] [_] (.tmp 66) (.tmp 68) rfl rfl rfl rfl ho2 rfl (by omega) (by omega) ?_; intro p2 q2 w3 ho3 hb3 hz3)
          | (at_builtin; refine app30 [_, _, _] [] (.tmp 70) (.tmp 72) rfl rfl rfl rfl ho3 rfl (by omega) (by omega) ?_))
        intro p3 q3 w4 ho4 hb4 hz4
        have hT := hb.trans (hb1.trans (hb2.trans (hb3.trans hb4)))
        have hR := script_step ls (by rw [HE.out]; exact kind_eq _) (by rw [HE.out]; exact cell_eq _ _) (by rw [HE.out]; exact word_eq (hA.out _)) (by rw [HE.out]; exact word_eq (hA.out _)) ho4
        clear ho1 ho2 ho3 ho4 ho hb hb1 hb2 hb3 hb4 hz1 hz2 hz3
        go_wp2
        go_roundw
        case rel => exact ⟨k + 1, p0, p1, p2, p3, q0, q1, q2, q3, by omega, by go_num, rfl, rfl, rfl, rfl, hR, hT⟩
        case measure => simp [intOf]; omega
      · have lw : 0 < l := by omega
        have m1 : 2 * k % l < l := Nat.mod_lt _ lw
        have m2 : (2 * k + 1) % l < l := Nat.mod_lt _ lw
        have w1' : 2 * k % l < words.length := by rw [Hws.out]; exact m1
        have w2' : (2 * k + 1) % l < words.length := by rw [Hws.out]; exact m2
        obtain ⟨b1, o1, rfl, hc1⟩ := at_u64 H1.out hb (Nat.le_refl _) w1'
        obtain ⟨b1', o1', he, hc2⟩ := at_u64 H1.out hb (Nat.le_refl _) w2'
        simp only [Option.some.injEq, Addr.mk.injEq, and_true] at he
        obtain ⟨rfl, rfl⟩ := he
        obtain ⟨xa, hxa⟩ : ∃ x, words[2 * k % l] = x := ⟨_, rfl⟩
        obtain ⟨xb, hxb⟩ : ∃ x, words[(2 * k + 1) % l] = x := ⟨_, rfl⟩
        rw [hxa] at hc1; rw [hxb] at hc2
        have hA : Hid (wordAt words k (2 * k) = xa) := by
          show _ = _
          rw [wordAt, if_neg (by intro h; rw [h] at w1'; simp at w1'), Hws.out, ← hxa]; simp [w1']
        have hB : Hid (wordAt words k (2 * k + 1) = xb) := by
          show _ = _
          rw [wordAt, if_neg (by intro h; rw [h] at w1'; simp at w1'), Hws.out, ← hxb]; simp [w2']
        clear hxa hxb w1' w2'
        have e1' : 2 * (k : Int) % (l : Int) = ((2 * k % l : Nat) : Int) := by simp
        have e2' : (2 * (k : Int) + 1) % (l : Int) = (((2 * k + 1) % l : Nat) : Int) := by simp
        have s1 : (2 * (k : Int) % (l : Int)).toNat = 2 * k % l := by rw [e1']; exact Int.toNat_natCast _
        have s2 : ((2 * (k : Int) + 1) % (l : Int)).toNat = (2 * k + 1) % l := by rw [e2']; exact Int.toNat_natCast _
        have s3 : 2 * (k : Int) % (l : Int) < (l : Int) := by rw [e1']; exact Int.ofNat_lt.2 m1
        have s4 : (2 * (k : Int) + 1) % (l : Int) < (l : Int) := by rw [e2']; exact Int.ofNat_lt.2 m2
        have s5 : 0 ≤ 2 * (k : Int) % (l : Int) := by rw [e1']; exact Int.natCast_nonneg _
        have s6 : 0 ≤ (2 * (k : Int) + 1) % (l : Int) := by rw [e2']; exact Int.natCast_nonneg _
        clear e1' e2'
        go_wp2_with (first
          | (at_builtin; refine app5 [] [_, _, _] (.tmp 53) (.tmp 56) rfl rfl rfl rfl ho rfl (by omega) (by omega) ?_; intro p0 q0 w1 ho1 hb1 hz1)
          | (at_builtin; refine app3 [_] [_, _] (.tmp 58) (.tmp 64) rfl rfl rfl rfl ho1 rfl (by omega) (by omega) ?_; intro p1 q1 w2 ho2 hb2 hz2)
          | (at_builtin; refine app30 [_, _] [_] (.tmp 66) (.tmp 68) rfl rfl rfl rfl ho2 rfl (by omega) (by omega) ?_; intro p2 q2 w3 ho3 hb3 hz3)
          | (at_builtin; refine app30 [_, _, _] [] (.tmp 70) (.tmp 72) rfl rfl rfl rfl ho3 rfl (by omega) (by omega) ?_))
        intro p3 q3 w4 ho4 hb4 hz4
        have hT := hb.trans (hb1.trans (hb2.trans (hb3.trans hb4)))
        have hR := script_step ls (by rw [HE.out]; exact kind_eq _) (by rw [HE.out]; exact cell_eq _ _) (by rw [HE.out]; exact word_eq (by rw [hA.out])) (by rw [HE.out]; exact word_eq (by rw [hB.out])) ho4
        clear ho1 ho2 ho3 ho4 ho hb hb1 hb2 hb3 hb4 hz1 hz2 hz3
        go_wp2
        go_roundw
        case rel => exact ⟨k + 1, p0, p1, p2, p3, q0, q1, q2, q3, by omega, by go_num, rfl, rfl, rfl, rfl, hR, hT⟩
        case measure => simp [intOf]; omega
    · rw [List.take_of_length_le (by rw [HL.out]; omega)] at ho
      obtain rfl : k = m := by omega
      have HR := Lib.hid ho
      have HB := Lib.hid hb
      clear ho hb
      go_wp2
      exact bodyPost_ret (v := .tuple #[.slice d0 k e0, .slice d1 k e1, .slice d2 k e2, .slice d3 k e3]) (by simp [results, Try.results4, go_sem]) rfl ⟨d0, e0, d1, e1, d2, e2, d3, e3, rfl, HR.out, HB.out⟩
end Go.Proofs.Ytjciefonlhhoaaa
