/-
  The walk of FnCellsApart: the calls of a script, put in order by their cells, return the same and leave the same cells.
-/
import Derived.Test.YtjjmjjbeecmmlaaOwn
import Derived.Test.YtjjmjjbeecmmlaaApartPlain
import Derived.Test.YtjjmjjbeecmmlaaFrame
namespace Go.Proofs.Ytjjmjjbeecmmlaa
set_option linter.unusedVariables false
set_option linter.unusedSimpArgs false
open Go.RowKit

/-- What has been collected when the calls before k have been looked at for cell c. -/
def coll (st : List (BitVec 64)) (sc : List (Call 64)) (c k : Nat) : List (Call 64 × BitVec 64) := byCells st sc c ++ ((sc.zip (runL st sc).1).take k).filter (fun p => p.1.cell == c)

section
variable {st : List (BitVec 64)} {sc : List (Call 64)} {c k : Nat}
theorem coll_zero : coll st sc c 0 = byCells st sc c := by simp [coll]
theorem coll_all : coll st sc c sc.length = byCells st sc (c + 1) := by
  unfold coll byCells
  rw [List.range_succ, List.flatMap_append, List.take_of_length_le (by simp [runL_fst_length])]
  simp
theorem coll_hit {d : Call 64} {x : BitVec 64} (hk : k < sc.length) (hd : sc[k] = d) (hx : (runL st sc).1.getD k 0 = x) (hc : d.cell = c) : coll st sc c (k + 1) = coll st sc c k ++ [(d, x)] := by
  have hl : k < (runL st sc).1.length := by rw [runL_fst_length]; exact hk
  have hz : k < (sc.zip (runL st sc).1).length := by simp [runL_fst_length, hk]
  unfold coll
  rw [List.take_succ_eq_append_getElem hz, List.filter_append, List.append_assoc]
  congr 2
  rw [List.getElem_zip, hd]
  simp only [List.filter_cons, hc, beq_self_eq_true, ↓reduceIte, List.filter_nil]
  rw [← hx]
  simp [hl]
theorem coll_miss {d : Call 64} (hk : k < sc.length) (hd : sc[k] = d) (hc : ¬ d.cell = c) : coll st sc c (k + 1) = coll st sc c k := by
  have hz : k < (sc.zip (runL st sc).1).length := by simp [runL_fst_length, hk]
  unfold coll
  rw [List.take_succ_eq_append_getElem hz, List.filter_append, List.getElem_zip, hd]
  have hc' : (d.cell == c) = false := by simpa using hc
  simp [List.filter_cons, hc']
theorem byCells_length : (byCells st sc c).length ≤ c * sc.length := by
  unfold byCells
  induction c with
  | zero => simp
  | succ c ih =>
    rw [List.range_succ, List.flatMap_append, List.length_append]
    simp only [List.flatMap_cons, List.flatMap_nil, List.append_nil]
    have := List.length_filter_le (fun p => p.1.cell == c) (sc.zip (runL st sc).1)
    simp only [List.length_zip, runL_fst_length, Nat.min_self] at this
    rw [Nat.succ_mul]
    omega
theorem coll_length : (coll st sc c k).length ≤ (c + 1) * sc.length := by
  unfold coll
  rw [List.length_append, Nat.succ_mul]
  have h1 := byCells_length (st := st) (sc := sc) (c := c)
  have h2 := List.length_filter_le (fun p => p.1.cell == c) ((sc.zip (runL st sc).1).take k)
  have h3 : ((sc.zip (runL st sc).1).take k).length ≤ sc.length := by simp [runL_fst_length]; omega
  omega
theorem byCells_mem {p : Call 64 × BitVec 64} (h : p ∈ byCells st sc c) : p.1 ∈ sc := by
  unfold byCells at h
  obtain ⟨e, _, he⟩ := List.mem_flatMap.1 h
  exact (List.of_mem_zip (List.mem_filter.1 he).1).1
end

/-- The five rows that the loops fill. -/
theorem coll_step {w : World} {B : Nat} {p : List Row} {a0 a1 a2 a3 a4 : Option Addr} {c0 c1 c2 c3 c4 : Nat} {Q : List (Call 64 × BitVec 64)} {κ : BitVec 8} {cl : Nat} {x y z : BitVec 64}
    (ho : Owns w B (p ++ [⟨5, a0, Q.length + 1, c0, U8 (kindsOf (Q.map (·.1))) ++ [.int .u8 (κ.toNat : Int)]⟩, ⟨3, a1, Q.length + 1, c1, NI (cellsOf (Q.map (·.1))) ++ [.int .i64 (cl : Int)]⟩, ⟨30, a2, Q.length + 1, c2, U (asOf (Q.map (·.1))) ++ [.int .u64 (x.toNat : Int)]⟩, ⟨30, a3, Q.length + 1, c3, U (bsOf (Q.map (·.1))) ++ [.int .u64 (y.toNat : Int)]⟩, ⟨30, a4, Q.length + 1, c4, U (Q.map (·.2)) ++ [.int .u64 (z.toNat : Int)]⟩])) :
    Owns w B (p ++ [⟨5, a0, (Q ++ [((⟨κ, cl, x, y⟩ : Call 64), z)]).length, c0, U8 (kindsOf ((Q ++ [((⟨κ, cl, x, y⟩ : Call 64), z)]).map (·.1)))⟩, ⟨3, a1, (Q ++ [((⟨κ, cl, x, y⟩ : Call 64), z)]).length, c1, NI (cellsOf ((Q ++ [((⟨κ, cl, x, y⟩ : Call 64), z)]).map (·.1)))⟩, ⟨30, a2, (Q ++ [((⟨κ, cl, x, y⟩ : Call 64), z)]).length, c2, U (asOf ((Q ++ [((⟨κ, cl, x, y⟩ : Call 64), z)]).map (·.1)))⟩, ⟨30, a3, (Q ++ [((⟨κ, cl, x, y⟩ : Call 64), z)]).length, c3, U (bsOf ((Q ++ [((⟨κ, cl, x, y⟩ : Call 64), z)]).map (·.1)))⟩, ⟨30, a4, (Q ++ [((⟨κ, cl, x, y⟩ : Call 64), z)]).length, c4, U ((Q ++ [((⟨κ, cl, x, y⟩ : Call 64), z)]).map (·.2))⟩]) := by
  simp only [kindsOf, cellsOf, asOf, bsOf, List.map_append, List.map_cons, List.map_nil, U_snoc, U8_snoc, NI_snoc, List.length_append, List.length_cons, List.length_nil, Nat.zero_add] at ho ⊢
  exact ho

set_option maxHeartbeats 3200000 in
set_option maxRecDepth 100000 in
theorem fnCellsApart_any (w : World) (a0 : Option Addr) (n0 c0 : Nat) (x0 : List (BitVec 64)) (k0 : Came w a0 n0 c0 (U x0)) (a1 : Option Addr) (n1 c1 : Nat) (x1 : List (BitVec 8)) (k1 : Came w a1 n1 c1 (U8 x1)) (a2 : Option Addr) (n2 c2 : Nat) (x2 : List (BitVec 64)) (k2 : Came w a2 n2 c2 (U x2)) (bd : n0 + n1 + n2 ≤ 1048576) :
    Calls Try.prog 3 #[.slice a0 n0 c0, .slice a1 n1 c1, .slice a2 n2 c2] w fun e w' => e = .returned (.bool true) ∧ Below w.heap.size w w' := by
  have K0 := Lib.hid k0.u64; have K1 := Lib.hid k1.u8; have K2 := Lib.hid k2.u64
  clear k0 k1 k2
  by_cases h0 : n0 = 0
  · subst h0
    go_enter Try.func3, Try.ntmps3
    go_wp2
    go_ret
    exact ⟨rfl, Below.refl _ _⟩
  have t0 : ((n0 : Int) == 0) = false := by simp; omega
  have t1 : ((n1 : Int) != (n1 : Int)) = false := by simp
  have p0 : 0 < n0 := by omega
  obtain ⟨sc, hsc⟩ : ∃ sc, scriptOf x1 x2 n0 = sc := ⟨_, rfl⟩
  have HL : Hid (sc.length = n1) := by show _ = _; rw [← hsc, scriptOf_length, K1.out.2.1]
  have HC : Hid (∀ c ∈ sc, c.cell < n0) := by show ∀ c ∈ sc, _; rw [← hsc]; exact scriptOf_cell p0
  have HQ : Hid (∀ c k, c < n0 → (coll x0 sc c k).length < 17592186043904) := by
    intro c k hc
    have h1 := coll_length (st := x0) (sc := sc) (c := c) (k := k)
    rw [HL.out] at h1
    have h2 : (c + 1) * n1 ≤ 1048576 * 1048576 := Nat.mul_le_mul (by omega) (by omega)
    omega
  have HSC := Lib.hid hsc
  clear hsc
  have O0 := Lib.hid (Owns.nil w w.heap.size); have B0 := Lib.hid (Below.refl w.heap.size w)
  have hz0 : w.heap.size ≤ w.heap.size := Nat.le_refl _
  go_enter Try.func3, Try.ntmps3
  go_wp2_with fail
  refine (script_any w a1 a2 c1 c2 n0 n1 n2 x1 x2 sc HSC.out K1.out.2.1 K2.out.2.1 K1.out.1 K2.out.1 (by omega) p0 (by omega) (by omega)).mono ?_
  rintro e w1 ⟨s0, d0, s1, d1, s2, d2, s3, d3, rfl, ho, hb⟩
  have O1 := Lib.hid (O0.out.more hb ho hz0); have B1 := Lib.hid (Below.more B0.out hb hz0)
  have hz1 : w.heap.size ≤ w1.heap.size := B1.out.size
  clear ho hb O0 B0 hz0
  go_wp2_with fail
  refine (copied_any a0 c0 n0 x0 w1 (K0.out.1.mono B1.out (Nat.le_refl _)) K0.out.2.1 K0.out.2.2.2 (by omega)).mono ?_
  rintro e w2 ⟨s4, d4, rfl, ho, hb⟩
  have O2 := Lib.hid (O1.out.more hb ho hz1); have B2 := Lib.hid (Below.more B1.out hb hz1)
  have hz2 : w.heap.size ≤ w2.heap.size := B2.out.size
  clear ho hb O1 B1 hz1
  go_wp2_with fail
  refine (run64_any w2 s4 s0 s1 s2 s3 d4 d0 d1 d2 d3 n0 n1 x0 sc K0.out.2.1 HL.out (O2.out.rdAt 4 rfl) (O2.out.rdAt 0 rfl) (O2.out.rdAt 1 rfl) (O2.out.rdAt 2 rfl) (O2.out.rdAt 3 rfl) (by omega) (by omega) HC.out).mono ?_
  rintro e w3 ⟨s5, d5, s6, d6, rfl, ho, hb⟩
  have O3 := Lib.hid (O2.out.more hb ho hz2); have B3 := Lib.hid (Below.more B2.out hb hz2)
  have hz3 : w.heap.size ≤ w3.heap.size := B3.out.size
  clear ho hb O2 B2 hz2
  have hp : Hid (Owns (((((w3.alloc (.cells #[] 5)).alloc (.cells #[] 3)).alloc (.cells #[] 30)).alloc (.cells #[] 30)).alloc (.cells #[] 30)) w.heap.size [⟨5, s0, n1, d0, U8 (kindsOf sc)⟩, ⟨3, s1, n1, d1, NI (cellsOf sc)⟩, ⟨30, s2, n1, d2, U (asOf sc)⟩, ⟨30, s3, n1, d3, U (bsOf sc)⟩, ⟨30, s4, n0, d4, U x0⟩, ⟨30, s5, n1, d5, U (runL x0 sc).1⟩, ⟨30, s6, n0, d6, U (runL x0 sc).2⟩, ⟨5, some ⟨w3.heap.size, 0, none⟩, 0, 0, []⟩, ⟨3, some ⟨w3.heap.size + 1, 0, none⟩, 0, 0, []⟩, ⟨30, some ⟨w3.heap.size + 1 + 1, 0, none⟩, 0, 0, []⟩, ⟨30, some ⟨w3.heap.size + 1 + 1 + 1, 0, none⟩, 0, 0, []⟩, ⟨30, some ⟨w3.heap.size + 1 + 1 + 1 + 1, 0, none⟩, 0, 0, []⟩]) := by
    refine Lib.hid ?_
    have := ((((O3.out.made hz3 5 #[] (by simp)).made (by simp; omega) 3 #[] (by simp)).made (by simp; omega) 30 #[] (by simp)).made (by simp; omega) 30 #[] (by simp)).made (by simp; omega) 30 #[] (by simp)
    simpa using this
  have hbp : Hid (Below w.heap.size w (((((w3.alloc (.cells #[] 5)).alloc (.cells #[] 3)).alloc (.cells #[] 30)).alloc (.cells #[] 30)).alloc (.cells #[] 30))) :=
    ((((B3.out.alloc hz3 _).alloc (by simp; omega) _).alloc (by simp; omega) _).alloc (by simp; omega) _).alloc (by simp; omega) _
  clear O3 B3
  go_wp2
  go_loopw [57, 13, 14, 15, 16, 17] (fun i v0 v1 v2 v3 v4 wr => ∃ (c : Nat) (e0 e1 e2 e3 e4 : Option Addr) (g0 g1 g2 g3 g4 : Nat), c ≤ n0 ∧ i = .int .i64 c ∧ v0 = .slice e0 (byCells x0 sc c).length g0 ∧ v1 = .slice e1 (byCells x0 sc c).length g1 ∧ v2 = .slice e2 (byCells x0 sc c).length g2 ∧ v3 = .slice e3 (byCells x0 sc c).length g3 ∧ v4 = .slice e4 (byCells x0 sc c).length g4 ∧ Owns wr w.heap.size [⟨5, s0, n1, d0, U8 (kindsOf sc)⟩, ⟨3, s1, n1, d1, NI (cellsOf sc)⟩, ⟨30, s2, n1, d2, U (asOf sc)⟩, ⟨30, s3, n1, d3, U (bsOf sc)⟩, ⟨30, s4, n0, d4, U x0⟩, ⟨30, s5, n1, d5, U (runL x0 sc).1⟩, ⟨30, s6, n0, d6, U (runL x0 sc).2⟩, ⟨5, e0, (byCells x0 sc c).length, g0, U8 (kindsOf ((byCells x0 sc c).map (·.1)))⟩, ⟨3, e1, (byCells x0 sc c).length, g1, NI (cellsOf ((byCells x0 sc c).map (·.1)))⟩, ⟨30, e2, (byCells x0 sc c).length, g2, U (asOf ((byCells x0 sc c).map (·.1)))⟩, ⟨30, e3, (byCells x0 sc c).length, g3, U (bsOf ((byCells x0 sc c).map (·.1)))⟩, ⟨30, e4, (byCells x0 sc c).length, g4, U ((byCells x0 sc c).map (·.2))⟩] ∧ Below w.heap.size w wr) (fun i _ _ _ _ _ _ => n0 - (intOf i).toNat)
  case atStart => exact ⟨0, _, _, _, _, _, _, _, _, _, _, Nat.zero_le _, rfl, rfl, rfl, rfl, rfl, rfl, by simpa [byCells, kindsOf, cellsOf, asOf, bsOf] using hp.out, hbp.out⟩
  case round =>
    clear hp hbp hz3
    obtain ⟨c, e0, e1, e2, e3, e4, g0, g1, g2, g3, g4, hc, rfl, rfl, rfl, rfl, rfl, rfl, ho, hb⟩ := hrel
    have hsz := hb.size
    by_cases hlt : c < n0
    · obtain ⟨wo, rfl⟩ : ∃ wo : World, wo = wr := ⟨_, rfl⟩
      have HO := Lib.hid ho; have HB := Lib.hid hb
      clear ho hb hsz
      go_wp2
      go_loopw [62, 13, 14, 15, 16, 17] (fun i v0 v1 v2 v3 v4 wr => ∃ (k : Nat) (e0 e1 e2 e3 e4 : Option Addr) (g0 g1 g2 g3 g4 : Nat), k ≤ n1 ∧ i = .int .i64 k ∧ v0 = .slice e0 (coll x0 sc c k).length g0 ∧ v1 = .slice e1 (coll x0 sc c k).length g1 ∧ v2 = .slice e2 (coll x0 sc c k).length g2 ∧ v3 = .slice e3 (coll x0 sc c k).length g3 ∧ v4 = .slice e4 (coll x0 sc c k).length g4 ∧ Owns wr w.heap.size [⟨5, s0, n1, d0, U8 (kindsOf sc)⟩, ⟨3, s1, n1, d1, NI (cellsOf sc)⟩, ⟨30, s2, n1, d2, U (asOf sc)⟩, ⟨30, s3, n1, d3, U (bsOf sc)⟩, ⟨30, s4, n0, d4, U x0⟩, ⟨30, s5, n1, d5, U (runL x0 sc).1⟩, ⟨30, s6, n0, d6, U (runL x0 sc).2⟩, ⟨5, e0, (coll x0 sc c k).length, g0, U8 (kindsOf ((coll x0 sc c k).map (·.1)))⟩, ⟨3, e1, (coll x0 sc c k).length, g1, NI (cellsOf ((coll x0 sc c k).map (·.1)))⟩, ⟨30, e2, (coll x0 sc c k).length, g2, U (asOf ((coll x0 sc c k).map (·.1)))⟩, ⟨30, e3, (coll x0 sc c k).length, g3, U (bsOf ((coll x0 sc c k).map (·.1)))⟩, ⟨30, e4, (coll x0 sc c k).length, g4, U ((coll x0 sc c k).map (·.2))⟩] ∧ Below w.heap.size w wr) (fun i _ _ _ _ _ _ => n1 - (intOf i).toNat)
      case atStart => exact ⟨0, _, _, _, _, _, _, _, _, _, _, Nat.zero_le _, rfl, by rw [coll_zero], by rw [coll_zero], by rw [coll_zero], by rw [coll_zero], by rw [coll_zero], by rw [coll_zero]; exact HO.out, HB.out⟩
      case round =>
        clear HO HB
        obtain ⟨k, e0, e1, e2, e3, e4, g0, g1, g2, g3, g4, hk, rfl, rfl, rfl, rfl, rfl, rfl, ho, hb⟩ := hrel
        have hsz := hb.size
        by_cases hlk : k < n1
        · have lx : k < sc.length := by rw [HL.out]; exact hlk
          have la : k < (runL x0 sc).1.length := by rw [runL_fst_length]; exact lx
          obtain ⟨κ, cl, x, y, hcall⟩ : ∃ κ cl x y, sc[k] = ⟨κ, cl, x, y⟩ := ⟨_, _, _, _, rfl⟩
          obtain ⟨z, hz⟩ : ∃ z, (runL x0 sc).1[k] = z := ⟨_, rfl⟩
          obtain ⟨b0, b1, b2, b3, rfl, rfl, rfl, rfl⟩ := ho.calls (i := 0) rfl rfl rfl rfl lx
          obtain ⟨b5, rfl⟩ := ho.addr 5 rfl (k := k) (by simpa using la)
          have HK := Lib.hid hcall; have HZ := Lib.hid hz
          clear hcall hz
          obtain ⟨q0, q1, q2, q3⟩ := ho.call (i := 0) rfl rfl rfl rfl lx HK.out
          by_cases he : cl = c
          · subst he
            have te : ((cl : Int) == (cl : Int)) = true := by simp
            have hql := HQ.out cl k hlt
            have HH : Hid (coll x0 sc cl (k + 1) = coll x0 sc cl k ++ [(⟨κ, cl, x, y⟩, z)]) := coll_hit lx HK.out (by rw [← HZ.out]; simp [la]) rfl
            obtain ⟨Q, hQ⟩ : ∃ Q, coll x0 sc cl k = Q := ⟨_, rfl⟩
            rw [hQ] at ho hql HH ⊢
            clear hQ
            have HO := Lib.hid ho; have HB := Lib.hid hb
            clear ho hb q2 q3
            go_wp2_with (at_builtin; refine app5s [_, _, _, _, _, _, _] [_, _, _, _] (.tmp 71) (.tmp 76) rfl rfl wr.heap.size rfl rfl rfl HO.out rfl (by omega) (by omega) ?_)
            intro f0 j0 u1 ho1 hb1 hs1
            have HO1 := Lib.hid ho1; have HB1 := Lib.hid (HB.out.trans hb1)
            clear ho1 hb1 HO HB q0 q1
            go_wp2_with (at_builtin; refine app3s [_, _, _, _, _, _, _, _] [_, _, _] (.tmp 78) (.tmp 80) rfl rfl u1.heap.size rfl rfl rfl HO1.out rfl (by omega) (by omega) ?_)
            intro f1 j1 u2 ho2 hb2 hs2
            obtain ⟨_, _, q2, _⟩ := ho2.call (i := 0) rfl rfl rfl rfl lx HK.out
            have HO2 := Lib.hid ho2; have HB2 := Lib.hid (HB1.out.trans hb2)
            clear ho2 hb2 HO1 HB1
            go_wp2_with (at_builtin; refine app30s [_, _, _, _, _, _, _, _, _] [_, _] (.tmp 82) (.tmp 87) rfl rfl u2.heap.size rfl rfl rfl HO2.out rfl (by omega) (by omega) ?_)
            intro f2 j2 u3 ho3 hb3 hs3
            obtain ⟨_, _, _, q3⟩ := ho3.call (i := 0) rfl rfl rfl rfl lx HK.out
            have HO3 := Lib.hid ho3; have HB3 := Lib.hid (HB2.out.trans hb3)
            clear ho3 hb3 HO2 HB2 q2
            go_wp2_with (at_builtin; refine app30s [_, _, _, _, _, _, _, _, _, _] [_] (.tmp 89) (.tmp 94) rfl rfl u3.heap.size rfl rfl rfl HO3.out rfl (by omega) (by omega) ?_)
            intro f3 j3 u4 ho4 hb4 hs4
            have q5 := ho4.get64 5 rfl (k := k) la
            rw [HZ.out] at q5
            have HO4 := Lib.hid ho4; have HB4 := Lib.hid (HB3.out.trans hb4)
            clear ho4 hb4 HO3 HB3 q3
            go_wp2_with (at_builtin; refine app30s [_, _, _, _, _, _, _, _, _, _, _] [] (.tmp 96) (.tmp 101) rfl rfl u4.heap.size rfl rfl rfl HO4.out rfl (by omega) (by omega) ?_)
            intro f4 j4 u5 ho5 hb5 hs5
            have hT := Lib.hid (HB4.out.trans hb5)
            have hR := Lib.hid (coll_step (p := [_, _, _, _, _, _, _]) ho5)
            clear ho5 hb5 HO4 HB4 q5
            go_wp2
            go_roundw
            case rel => exact ⟨k + 1, f0, f1, f2, f3, f4, j0, j1, j2, j3, j4, by omega, by go_num, by rw [HH.out]; simp, by rw [HH.out]; simp, by rw [HH.out]; simp, by rw [HH.out]; simp, by rw [HH.out]; simp, by rw [HH.out]; exact hR.out, hT.out⟩
            case measure => simp [intOf]; omega
          · have te : ((cl : Int) == (c : Int)) = false := by simp; omega
            have HH : Hid (coll x0 sc c (k + 1) = coll x0 sc c k) := coll_miss lx HK.out he
            have HO := Lib.hid ho; have HB := Lib.hid hb
            clear ho hb q0 q2 q3 he
            go_wp2
            go_roundw
            case rel => exact ⟨k + 1, e0, e1, e2, e3, e4, g0, g1, g2, g3, g4, by omega, by go_num, by rw [HH.out], by rw [HH.out], by rw [HH.out], by rw [HH.out], by rw [HH.out], by rw [HH.out]; exact HO.out, HB.out⟩
            case measure => simp [intOf]; omega
        · obtain rfl : k = n1 := by omega
          have HE : Hid (coll x0 sc c k = byCells x0 sc (c + 1)) := by
            have := coll_all (st := x0) (sc := sc) (c := c)
            rw [HL.out] at this
            exact this
          rw [HE.out] at ho ⊢
          have HO := Lib.hid ho; have HB := Lib.hid hb
          clear ho hb
          go_wp2
          go_roundw
          case rel => exact ⟨c + 1, e0, e1, e2, e3, e4, g0, g1, g2, g3, g4, by omega, by go_num, rfl, rfl, rfl, rfl, rfl, HO.out, HB.out⟩
          case measure => simp [intOf]; omega
    · obtain rfl : c = n0 := by omega
      have HA : Hid ((runL x0 ((byCells x0 sc c).map (·.1))).1 = (byCells x0 sc c).map (·.2)) := by
        have := apart_answers (st := x0) (sc := sc)
        rw [K0.out.2.1] at this
        exact this
      have HS : Hid ((runL x0 ((byCells x0 sc c).map (·.1))).2 = (runL x0 sc).2) := by
        have := apart_cells (st := x0) (sc := sc)
        rw [K0.out.2.1] at this
        exact this
      have HM : Hid (∀ d ∈ (byCells x0 sc c).map (·.1), d.cell < c) := by
        intro d hd
        obtain ⟨p, hp, rfl⟩ := List.mem_map.1 hd
        exact HC.out _ (byCells_mem hp)
      have hql : (byCells x0 sc c).length ≤ 17592186043904 := by
        have h1 := byCells_length (st := x0) (sc := sc) (c := c)
        rw [HL.out] at h1
        have h2 : c * n1 ≤ 1048576 * 1048576 := Nat.mul_le_mul (by omega) (by omega)
        omega
      obtain ⟨Q, hQ⟩ : ∃ Q, byCells x0 sc c = Q := ⟨_, rfl⟩
      rw [hQ] at ho HA HS HM hql ⊢
      clear hQ HQ
      obtain ⟨w4, rfl⟩ : ∃ w4 : World, w4 = wr := ⟨_, rfl⟩
      have O4 := Lib.hid ho; have B4 := Lib.hid hb; have hz4 := hsz
      clear ho hb hsz
      go_wp2_with fail
      refine (copied_any a0 c0 c x0 w4 (K0.out.1.mono B4.out (Nat.le_refl _)) K0.out.2.1 K0.out.2.2.2 (by omega)).mono ?_
      rintro e w5 ⟨s7, d7, rfl, ho, hb⟩
      have O5 := Lib.hid (O4.out.more hb ho hz4); have B5 := Lib.hid (Below.more B4.out hb hz4)
      have hz5 : w.heap.size ≤ w5.heap.size := B5.out.size
      clear ho hb O4 B4 hz4
      go_wp2_with fail
      refine (run64_any w5 s7 e0 e1 e2 e3 d7 g0 g1 g2 g3 c Q.length x0 (Q.map (·.1)) K0.out.2.1 (by simp) (O5.out.rdAt 12 rfl) (O5.out.rdAt 7 rfl) (O5.out.rdAt 8 rfl) (O5.out.rdAt 9 rfl) (O5.out.rdAt 10 rfl) (by omega) hql HM.out).mono ?_
      rintro e w6 ⟨s8, d8, s9, d9, rfl, ho, hb⟩
      have O6 := Lib.hid (O5.out.more hb ho hz5); have B6 := Lib.hid (Below.more B5.out hb hz5)
      have hz6 : w.heap.size ≤ w6.heap.size := B6.out.size
      clear ho hb O5 B5 hz5
      go_wp2_with fail
      refine (sameWords_any s8 e4 d8 g4 Q.length Q.length (runL x0 (Q.map (·.1))).1 (Q.map (·.2)) w6 (O6.out.rdAt 13 rfl) (O6.out.rdAt 11 rfl) (by rw [runL_fst_length]; simp) (by simp) hql hql true (by rw [HA.out]; simp)).mono ?_
      rintro e w7 ⟨rfl, hb⟩
      have O7 := Lib.hid (O6.out.mono hb (Nat.le_refl _)); have B7 := Lib.hid (Below.more B6.out hb hz6)
      have hz7 : w.heap.size ≤ w7.heap.size := B7.out.size
      clear hb O6 B6 hz6
      go_wp2_with fail
      refine (sameWords_any s9 s6 d9 d6 c c (runL x0 (Q.map (·.1))).2 (runL x0 sc).2 w7 (O7.out.rdAt 14 rfl) (O7.out.rdAt 6 rfl) (by rw [runL_snd_length, K0.out.2.1]) (by rw [runL_snd_length, K0.out.2.1]) (by omega) (by omega) true (by rw [HS.out]; simp)).mono ?_
      rintro e w8 ⟨rfl, hb⟩
      have O8 := Lib.hid (O7.out.mono hb (Nat.le_refl _)); have B8 := Lib.hid (Below.more B7.out hb hz7)
      have hz8 : w.heap.size ≤ w8.heap.size := B8.out.size
      clear hb O7 B7 hz7
      go_wp2
      go_ret
      exact ⟨rfl, B8.out⟩
end Go.Proofs.Ytjjmjjbeecmmlaa
