/-
  The walk of FnOwnCell: the calls of one cell alone return what they return among all others.
-/
import Derived.Test.YtjjmjjbeecmmlaaOwn
import Derived.Test.YtjjmjjbeecmmlaaApartPlain
import Derived.Test.YtjjmjjbeecmmlaaFrame
namespace Go.Proofs.Ytjjmjjbeecmmlaa
set_option linter.unusedVariables false
set_option linter.unusedSimpArgs false
open Go.RowKit

/-- The calls of cell c among the first k, with their answers. -/
def mine (st : List (BitVec 64)) (sc : List (Call 64)) (c k : Nat) : List (Call 64 × BitVec 64) := ((sc.zip (runL st sc).1).take k).filter (fun p => p.1.cell == c)
/-- The same calls, of cell 0. -/
def zeroed (Q : List (Call 64 × BitVec 64)) : List (Call 64) := (Q.map (·.1)).map fun d => { d with cell := 0 }

section
variable {st : List (BitVec 64)} {sc : List (Call 64)} {c k : Nat}
theorem mine_hit {d : Call 64} {x : BitVec 64} (hk : k < sc.length) (hd : sc[k] = d) (hx : (runL st sc).1.getD k 0 = x) (hc : d.cell = c) : mine st sc c (k + 1) = mine st sc c k ++ [(d, x)] := by
  have hl : k < (runL st sc).1.length := by rw [runL_fst_length]; exact hk
  have hz : k < (sc.zip (runL st sc).1).length := by simp [runL_fst_length, hk]
  unfold mine
  rw [List.take_succ_eq_append_getElem hz, List.filter_append]
  congr 1
  rw [List.getElem_zip, hd]
  simp only [List.filter_cons, hc, beq_self_eq_true, ↓reduceIte, List.filter_nil]
  rw [← hx]
  simp [hl]
theorem mine_miss {d : Call 64} (hk : k < sc.length) (hd : sc[k] = d) (hc : ¬ d.cell = c) : mine st sc c (k + 1) = mine st sc c k := by
  have hz : k < (sc.zip (runL st sc).1).length := by simp [runL_fst_length, hk]
  unfold mine
  rw [List.take_succ_eq_append_getElem hz, List.filter_append, List.getElem_zip, hd]
  have hc' : (d.cell == c) = false := by simpa using hc
  simp [List.filter_cons, hc']
theorem mine_length : (mine st sc c k).length ≤ sc.length := by
  unfold mine
  have h2 := List.length_filter_le (fun p => p.1.cell == c) ((sc.zip (runL st sc).1).take k)
  have h3 : ((sc.zip (runL st sc).1).take k).length ≤ sc.length := by simp [runL_fst_length]; omega
  omega
theorem mine_all : mine st sc c sc.length = (sc.zip (runL st sc).1).filter (fun p => p.1.cell == c) := by
  unfold mine
  rw [List.take_of_length_le (by simp [runL_fst_length])]
end

theorem zeroed_length {Q : List (Call 64 × BitVec 64)} : (zeroed Q).length = Q.length := by simp [zeroed]

theorem mine_step {w : World} {B : Nat} {p : List Row} {a0 a1 a2 a3 a4 : Option Addr} {c0 c1 c2 c3 c4 : Nat} {Q : List (Call 64 × BitVec 64)} {κ : BitVec 8} {cl : Nat} {x y z : BitVec 64}
    (ho : Owns w B (p ++ [⟨5, a0, Q.length + 1, c0, U8 (kindsOf (zeroed Q)) ++ [.int .u8 (κ.toNat : Int)]⟩, ⟨3, a1, Q.length + 1, c1, NI (cellsOf (zeroed Q)) ++ [.int .i64 0]⟩, ⟨30, a2, Q.length + 1, c2, U (asOf (zeroed Q)) ++ [.int .u64 (x.toNat : Int)]⟩, ⟨30, a3, Q.length + 1, c3, U (bsOf (zeroed Q)) ++ [.int .u64 (y.toNat : Int)]⟩, ⟨30, a4, Q.length + 1, c4, U (Q.map (·.2)) ++ [.int .u64 (z.toNat : Int)]⟩]))
    {Q' : List (Call 64 × BitVec 64)} (hQ : Q' = Q ++ [((⟨κ, cl, x, y⟩ : Call 64), z)]) :
    Owns w B (p ++ [⟨5, a0, Q'.length, c0, U8 (kindsOf (zeroed Q'))⟩, ⟨3, a1, Q'.length, c1, NI (cellsOf (zeroed Q'))⟩, ⟨30, a2, Q'.length, c2, U (asOf (zeroed Q'))⟩, ⟨30, a3, Q'.length, c3, U (bsOf (zeroed Q'))⟩, ⟨30, a4, Q'.length, c4, U (Q'.map (·.2))⟩]) := by
  subst hQ
  have e0 : Value.int .i64 0 = .int .i64 ((0 : Nat) : Int) := rfl
  rw [e0] at ho
  simp only [zeroed, kindsOf, cellsOf, asOf, bsOf, List.map_append, List.map_cons, List.map_nil, U_snoc, U8_snoc, NI_snoc, List.length_append, List.length_cons, List.length_nil, Nat.zero_add] at ho ⊢
  exact ho

set_option maxHeartbeats 3200000 in
set_option maxRecDepth 100000 in
theorem fnOwnCell_any (w : World) (a0 : Option Addr) (n0 c0 : Nat) (x0 : List (BitVec 64)) (k0 : Came w a0 n0 c0 (U x0)) (a1 : Option Addr) (n1 c1 : Nat) (x1 : List (BitVec 8)) (k1 : Came w a1 n1 c1 (U8 x1)) (a2 : Option Addr) (n2 c2 : Nat) (x2 : List (BitVec 64)) (k2 : Came w a2 n2 c2 (U x2)) (x3 : BitVec 8) (bd : n0 + n1 + n2 ≤ 1048576) :
    Calls Try.prog 5 #[.slice a0 n0 c0, .slice a1 n1 c1, .slice a2 n2 c2, .int .u8 (x3.toNat : Int)] w fun e w' => e = .returned (.bool true) ∧ Below w.heap.size w w' := by
  have K0 := Lib.hid k0.u64; have K1 := Lib.hid k1.u8; have K2 := Lib.hid k2.u64
  clear k0 k1 k2
  by_cases h0 : n0 = 0
  · subst h0
    go_enter Try.func5, Try.ntmps5
    go_wp2
    go_ret
    exact ⟨rfl, Below.refl _ _⟩
  have t0 : ((n0 : Int) == 0) = false := by simp; omega
  have t1 : ((n1 : Int) != (n1 : Int)) = false := by simp
  have t2 : ((n0 : Int) != (n0 : Int)) = false := by simp
  have p0 : 0 < n0 := by omega
  have b3 := x3.isLt
  obtain ⟨c, hcx⟩ : ∃ c, x3.toNat % n0 = c := ⟨_, rfl⟩
  have hcn : c < n0 := by rw [← hcx]; exact Nat.mod_lt _ p0
  have hce : ((x3.toNat : Int) % (n0 : Int)) = (c : Int) := by rw [← hcx]; simp
  clear hcx
  obtain ⟨sc, hsc⟩ : ∃ sc, scriptOf x1 x2 n0 = sc := ⟨_, rfl⟩
  have HL : Hid (sc.length = n1) := by show _ = _; rw [← hsc, scriptOf_length, K1.out.2.1]
  have HC : Hid (∀ c ∈ sc, c.cell < n0) := by show ∀ c ∈ sc, _; rw [← hsc]; exact scriptOf_cell p0
  have HQ : Hid (∀ k, (mine x0 sc c k).length ≤ 1048576) := by
    intro k
    have h1 := mine_length (st := x0) (sc := sc) (c := c) (k := k)
    rw [HL.out] at h1
    omega
  have HSC := Lib.hid hsc
  clear hsc
  have O0 := Lib.hid (Owns.nil w w.heap.size); have B0 := Lib.hid (Below.refl w.heap.size w)
  have hz0 : w.heap.size ≤ w.heap.size := Nat.le_refl _
  go_enter Try.func5, Try.ntmps5
  go_wp2_with fail
  refine (script_any w a1 a2 c1 c2 n0 n1 n2 x1 x2 sc HSC.out K1.out.2.1 K2.out.2.1 K1.out.1 K2.out.1 (by omega) p0 (by omega) (by omega)).mono ?_
  rintro e w1 ⟨s0, d0, s1, d1, s2, d2, s3, d3, rfl, ho, hb⟩
  have O1 := Lib.hid (O0.out.more hb ho hz0); have B1 := Lib.hid (Below.more B0.out hb hz0)
  have hz1 : w.heap.size ≤ w1.heap.size := B1.out.size
  clear ho hb O0 B0 hz0
  go_wp2_with fail
  refine (copied_any a0 c0 n0 x0 w1 (K0.out.1.mono B1.out (Nat.le_refl _)) K0.out.2.1 K0.out.2.2.2 (by omega)).mono ?_
  rintro e w2 ⟨s4, d4, rfl, ho, hb⟩
  have O2 := Lib.hid (O1.out.more hb ho hz1); have B2 := Lib.hid (Below.more B1.out hb hz1)
  have hz2 : w.heap.size ≤ w2.heap.size := B2.out.size
  clear ho hb O1 B1 hz1
  go_wp2_with fail
  refine (run64_any w2 s4 s0 s1 s2 s3 d4 d0 d1 d2 d3 n0 n1 x0 sc K0.out.2.1 HL.out (O2.out.rdAt 4 rfl) (O2.out.rdAt 0 rfl) (O2.out.rdAt 1 rfl) (O2.out.rdAt 2 rfl) (O2.out.rdAt 3 rfl) (by omega) (by omega) HC.out).mono ?_
  rintro e w3 ⟨s5, d5, s6, d6, rfl, ho, hb⟩
  have O3 := Lib.hid (O2.out.more hb ho hz2); have B3 := Lib.hid (Below.more B2.out hb hz2)
  have hz3 : w.heap.size ≤ w3.heap.size := B3.out.size
  clear ho hb O2 B2 hz2
  have hp : Hid (Owns (((((w3.alloc (.cells #[] 5)).alloc (.cells #[] 3)).alloc (.cells #[] 30)).alloc (.cells #[] 30)).alloc (.cells #[] 30)) w.heap.size [⟨5, s0, n1, d0, U8 (kindsOf sc)⟩, ⟨3, s1, n1, d1, NI (cellsOf sc)⟩, ⟨30, s2, n1, d2, U (asOf sc)⟩, ⟨30, s3, n1, d3, U (bsOf sc)⟩, ⟨30, s4, n0, d4, U x0⟩, ⟨30, s5, n1, d5, U (runL x0 sc).1⟩, ⟨30, s6, n0, d6, U (runL x0 sc).2⟩, ⟨5, some ⟨w3.heap.size, 0, none⟩, 0, 0, []⟩, ⟨3, some ⟨w3.heap.size + 1, 0, none⟩, 0, 0, []⟩, ⟨30, some ⟨w3.heap.size + 1 + 1, 0, none⟩, 0, 0, []⟩, ⟨30, some ⟨w3.heap.size + 1 + 1 + 1, 0, none⟩, 0, 0, []⟩, ⟨30, some ⟨w3.heap.size + 1 + 1 + 1 + 1, 0, none⟩, 0, 0, []⟩]) := by
    refine Lib.hid ?_
    have := ((((O3.out.made hz3 5 #[] (by simp)).made (by simp; omega) 3 #[] (by simp)).made (by simp; omega) 30 #[] (by simp)).made (by simp; omega) 30 #[] (by simp)).made (by simp; omega) 30 #[] (by simp)
    simpa using this
  have hbp : Hid (Below w.heap.size w (((((w3.alloc (.cells #[] 5)).alloc (.cells #[] 3)).alloc (.cells #[] 30)).alloc (.cells #[] 30)).alloc (.cells #[] 30))) :=
    ((((B3.out.alloc hz3 _).alloc (by simp; omega) _).alloc (by simp; omega) _).alloc (by simp; omega) _).alloc (by simp; omega) _
  clear O3 B3
  go_wp2
  go_loopw [71, 16, 17, 18, 19, 20] (fun i v0 v1 v2 v3 v4 wr => ∃ (k : Nat) (e0 e1 e2 e3 e4 : Option Addr) (g0 g1 g2 g3 g4 : Nat), k ≤ n1 ∧ i = .int .i64 k ∧ v0 = .slice e0 (mine x0 sc c k).length g0 ∧ v1 = .slice e1 (mine x0 sc c k).length g1 ∧ v2 = .slice e2 (mine x0 sc c k).length g2 ∧ v3 = .slice e3 (mine x0 sc c k).length g3 ∧ v4 = .slice e4 (mine x0 sc c k).length g4 ∧ Owns wr w.heap.size [⟨5, s0, n1, d0, U8 (kindsOf sc)⟩, ⟨3, s1, n1, d1, NI (cellsOf sc)⟩, ⟨30, s2, n1, d2, U (asOf sc)⟩, ⟨30, s3, n1, d3, U (bsOf sc)⟩, ⟨30, s4, n0, d4, U x0⟩, ⟨30, s5, n1, d5, U (runL x0 sc).1⟩, ⟨30, s6, n0, d6, U (runL x0 sc).2⟩, ⟨5, e0, (mine x0 sc c k).length, g0, U8 (kindsOf (zeroed (mine x0 sc c k)))⟩, ⟨3, e1, (mine x0 sc c k).length, g1, NI (cellsOf (zeroed (mine x0 sc c k)))⟩, ⟨30, e2, (mine x0 sc c k).length, g2, U (asOf (zeroed (mine x0 sc c k)))⟩, ⟨30, e3, (mine x0 sc c k).length, g3, U (bsOf (zeroed (mine x0 sc c k)))⟩, ⟨30, e4, (mine x0 sc c k).length, g4, U ((mine x0 sc c k).map (·.2))⟩] ∧ Below w.heap.size w wr) (fun i _ _ _ _ _ _ => n1 - (intOf i).toNat)
  case atStart => exact ⟨0, _, _, _, _, _, _, _, _, _, _, Nat.zero_le _, rfl, rfl, rfl, rfl, rfl, rfl, by simpa [mine, zeroed, kindsOf, cellsOf, asOf, bsOf] using hp.out, hbp.out⟩
  case round =>
    clear hp hbp hz3
    obtain ⟨k, e0, e1, e2, e3, e4, g0, g1, g2, g3, g4, hk, rfl, rfl, rfl, rfl, rfl, rfl, ho, hb⟩ := hrel
    have hsz := hb.size
    by_cases hlk : k < n1
    · have lx : k < sc.length := by rw [HL.out]; exact hlk
      have la : k < (runL x0 sc).1.length := by rw [runL_fst_length]; exact lx
      obtain ⟨κ, cl, x, y, hcall⟩ : ∃ κ cl x y, sc[k] = ⟨κ, cl, x, y⟩ := ⟨_, _, _, _, rfl⟩
      obtain ⟨z, hz⟩ : ∃ z, (runL x0 sc).1[k] = z := ⟨_, rfl⟩
      obtain ⟨b0, b1, b2, b3, rfl, rfl, rfl, rfl⟩ := ho.calls (i := 0) rfl rfl rfl rfl lx
      obtain ⟨b5, rfl⟩ := ho.addr 5 rfl (k := k) (by simpa using la)
      have HK := Lib.hid hcall; have HZ := Lib.hid hz
      clear hcall hz
      obtain ⟨q0, q1, q2, q3⟩ := ho.call (i := 0) rfl rfl rfl rfl lx HK.out
      by_cases he : cl = c
      · subst he
        have te : ((cl : Int) == (cl : Int)) = true := by simp
        have hql := HQ.out k
        have HH : Hid (mine x0 sc cl (k + 1) = mine x0 sc cl k ++ [(⟨κ, cl, x, y⟩, z)]) := mine_hit lx HK.out (by rw [← HZ.out]; simp [la]) rfl
        have HM : Hid ((mine x0 sc cl (k + 1)).length = (mine x0 sc cl k).length + 1) := by show _ = _; rw [HH.out]; simp
        obtain ⟨Q, hQ⟩ : ∃ Q, mine x0 sc cl k = Q := ⟨_, rfl⟩
        rw [hQ] at ho hql HH HM ⊢
        clear hQ
        have HO := Lib.hid ho; have HB := Lib.hid hb
        clear ho hb q2 q3
        go_wp2_with (at_builtin; refine app5s [_, _, _, _, _, _, _] [_, _, _, _] (.tmp 80) (.tmp 85) rfl rfl wr.heap.size rfl rfl rfl HO.out rfl (by omega) (by omega) ?_)
        intro f0 j0 u1 ho1 hb1 hs1
        have HO1 := Lib.hid ho1; have HB1 := Lib.hid (HB.out.trans hb1)
        clear ho1 hb1 HO HB q0 q1
        go_wp2_with (at_builtin; refine app3s [_, _, _, _, _, _, _, _] [_, _, _] (.tmp 87) (.tmp 88) rfl rfl u1.heap.size rfl rfl rfl HO1.out rfl (by omega) (by omega) ?_)
        intro f1 j1 u2 ho2 hb2 hs2
        obtain ⟨_, _, q2, _⟩ := ho2.call (i := 0) rfl rfl rfl rfl lx HK.out
        have HO2 := Lib.hid ho2; have HB2 := Lib.hid (HB1.out.trans hb2)
        clear ho2 hb2 HO1 HB1
        go_wp2_with (at_builtin; refine app30s [_, _, _, _, _, _, _, _, _] [_, _] (.tmp 90) (.tmp 95) rfl rfl u2.heap.size rfl rfl rfl HO2.out rfl (by omega) (by omega) ?_)
        intro f2 j2 u3 ho3 hb3 hs3
        obtain ⟨_, _, _, q3⟩ := ho3.call (i := 0) rfl rfl rfl rfl lx HK.out
        have HO3 := Lib.hid ho3; have HB3 := Lib.hid (HB2.out.trans hb3)
        clear ho3 hb3 HO2 HB2 q2
        go_wp2_with (at_builtin; refine app30s [_, _, _, _, _, _, _, _, _, _] [_] (.tmp 97) (.tmp 102) rfl rfl u3.heap.size rfl rfl rfl HO3.out rfl (by omega) (by omega) ?_)
        intro f3 j3 u4 ho4 hb4 hs4
        have q5 := ho4.get64 5 rfl (k := k) la
        rw [HZ.out] at q5
        have HO4 := Lib.hid ho4; have HB4 := Lib.hid (HB3.out.trans hb4)
        clear ho4 hb4 HO3 HB3 q3
        go_wp2_with (at_builtin; refine app30s [_, _, _, _, _, _, _, _, _, _, _] [] (.tmp 104) (.tmp 109) rfl rfl u4.heap.size rfl rfl rfl HO4.out rfl (by omega) (by omega) ?_)
        intro f4 j4 u5 ho5 hb5 hs5
        have hT := Lib.hid (HB4.out.trans hb5)
        have hR := Lib.hid (mine_step (p := [_, _, _, _, _, _, _]) ho5 HH.out)
        clear ho5 hb5 HO4 HB4 q5
        go_wp2
        go_roundw
        case rel => exact ⟨k + 1, f0, f1, f2, f3, f4, j0, j1, j2, j3, j4, by omega, by go_num, by rw [HM.out], by rw [HM.out], by rw [HM.out], by rw [HM.out], by rw [HM.out], hR.out, hT.out⟩
        case measure => simp [intOf]; omega
      · have te : ((cl : Int) == (c : Int)) = false := by simp; omega
        have HH : Hid (mine x0 sc c (k + 1) = mine x0 sc c k) := mine_miss lx HK.out he
        have HO := Lib.hid ho; have HB := Lib.hid hb
        clear ho hb q0 q2 q3 he
        go_wp2
        go_roundw
        case rel => exact ⟨k + 1, e0, e1, e2, e3, e4, g0, g1, g2, g3, g4, by omega, by go_num, by rw [HH.out], by rw [HH.out], by rw [HH.out], by rw [HH.out], by rw [HH.out], by rw [HH.out]; exact HO.out, HB.out⟩
        case measure => simp [intOf]; omega
    · obtain rfl : k = n1 := by omega
      have lc : c < x0.length := by rw [K0.out.2.1]; exact hcn
      have ll : c < (runL x0 sc).2.length := by rw [runL_snd_length]; exact lc
      have HA : Hid (runL [x0[c]] (zeroed (mine x0 sc c k)) = ((mine x0 sc c k).map (·.2), [(runL x0 sc).2[c]])) := by
        have h1 := mine_all (st := x0) (sc := sc) (c := c)
        rw [HL.out] at h1
        rw [h1]
        have h2 := alone_answers (sc := sc) lc
        have g1 : x0.getD c 0 = x0[c] := by simp [lc]
        have g2 : (runL x0 sc).2.getD c 0 = (runL x0 sc).2[c] := by simp [ll]
        rw [g1, g2] at h2
        exact h2
      have hql := HQ.out k
      obtain ⟨Q, hQ⟩ : ∃ Q, mine x0 sc c k = Q := ⟨_, rfl⟩
      rw [hQ] at ho HA hql ⊢
      clear hQ HQ
      obtain ⟨w4, rfl⟩ : ∃ w4 : World, w4 = wr := ⟨_, rfl⟩
      have O4 := Lib.hid ho; have B4 := Lib.hid hb; have hz4 := hsz
      clear ho hb hsz
      obtain ⟨bs, os, rfl, qs⟩ := at_u64 K0.out.1 B4.out (Nat.le_refl _) lc
      have O5 := Lib.hid (O4.out.made hz4 30 #[.int .u64 (x0[c].toNat : Int)] (by simp [maxLen])); have B5 := Lib.hid (B4.out.alloc hz4 (.cells #[.int .u64 (x0[c].toNat : Int)] 30))
      have hz5 := Lib.hid B5.out.size
      clear O4 B4 hz4
      go_wp2_with fail
      refine (run64_any _ (some ⟨w4.heap.size, 0, none⟩) e0 e1 e2 e3 1 g0 g1 g2 g3 1 Q.length [x0[c]] (zeroed Q) rfl zeroed_length (O5.out.rdAt 12 rfl) (O5.out.rdAt 7 rfl) (O5.out.rdAt 8 rfl) (O5.out.rdAt 9 rfl) (O5.out.rdAt 10 rfl) (by omega) (by omega) (by intro d hd; simp only [zeroed, List.mem_map] at hd; obtain ⟨_, _, rfl⟩ := hd; simp)).mono ?_
      rintro e w6 ⟨s8, d8, s9, d9, rfl, ho, hb⟩
      have O6 := Lib.hid (O5.out.more hb ho hz5); have B6 := Lib.hid (Below.more B5.out hb hz5)
      have hz6 : w.heap.size ≤ w6.heap.size := B6.out.size
      clear ho hb O5 B5 hz5
      clear qs
      go_wp2_with fail
      refine (sameWords_any s8 e4 d8 g4 Q.length Q.length (runL [x0[c]] (zeroed Q)).1 (Q.map (·.2)) w6 (O6.out.rdAt 13 rfl) (O6.out.rdAt 11 rfl) (by rw [runL_fst_length, zeroed_length]) (by simp) (by omega) (by omega) true (by rw [HA.out]; simp)).mono ?_
      rintro e w7 ⟨rfl, hb⟩
      have O7 := Lib.hid (O6.out.mono hb (Nat.le_refl _)); have B7 := Lib.hid (Below.more B6.out hb hz6)
      have hz7 : w.heap.size ≤ w7.heap.size := B7.out.size
      clear hb O6 B6 hz6
      obtain ⟨b6, rfl⟩ := O7.out.addr 6 rfl (k := c) (by simpa using ll)
      have q6 := O7.out.get64 6 rfl ll
      have O8 := Lib.hid (O7.out.made hz7 30 #[.int .u64 ((runL x0 sc).2[c].toNat : Int)] (by simp [maxLen])); have B8 := Lib.hid (B7.out.alloc hz7 (.cells #[.int .u64 ((runL x0 sc).2[c].toNat : Int)] 30))
      have hz8 := Lib.hid B8.out.size
      clear O7 B7 hz7
      go_wp2_with fail
      refine (sameWords_any s9 (some ⟨w7.heap.size, 0, none⟩) d9 1 1 1 (runL [x0[c]] (zeroed Q)).2 [(runL x0 sc).2[c]] _ (O8.out.rdAt 14 rfl) (O8.out.rdAt 15 rfl) (by rw [runL_snd_length]; rfl) rfl (by omega) (by omega) true (by rw [HA.out]; simp)).mono ?_
      rintro e w9 ⟨rfl, hb⟩
      have O9 := Lib.hid (O8.out.mono hb (Nat.le_refl _)); have B9 := Lib.hid (Below.more B8.out hb hz8)
      have hz9 : w.heap.size ≤ w9.heap.size := B9.out.size
      clear hb O8 B8 hz8
      go_wp2
      go_ret
      exact ⟨rfl, B9.out⟩
end Go.Proofs.Ytjjmjjbeecmmlaa
