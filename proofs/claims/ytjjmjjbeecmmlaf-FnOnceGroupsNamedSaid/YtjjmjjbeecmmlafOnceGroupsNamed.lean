/-
  The walk of FnOnceGroupsNamed: whatever the groups are named, the same calls run.
-/
import Derived.Test.YtjjmjjbeecmmlafAlive
import Derived.Deep.RegionWith
namespace Go.Proofs.Ytjjmjjbeecmmlaf
set_option linter.unusedVariables false
set_option linter.unusedSimpArgs false
open Go.RowKit

theorem infoI8 : (Try.prog.info? 37).map (fun i => (i.zero, i.size, i.bytes)) = some (some (.int .i8 0), 1, 1) := by kernel_rfl
section
variable {w : World} {ops : Array Oper} {rest : List Oper} {o : Oper} {a : Act} {Q : Exit → Act → World → Prop} {B : Nat} (p q : List Row) {ra : Option Addr} {n rc : Nat} {xs : List Value} {v : Value} (s x : Operand)
theorem app8is (hgd : o.guard = none) (ho : o.op = .call { callee := .builtin .append, args := #[s, x], argTypes := #[22, 22] }) (sz : Nat) (hsz : w.heap.size = sz) (hs : a.eval s = .slice ra n rc) (hx : a.eval x = .slice (some ⟨sz, 0, none⟩) 1 1)
    (hown : Owns w B (p ++ ⟨37, ra, n, rc, xs⟩ :: q)) (hv : v.oneCell' = true) (hn : n < 17592186043904) (hB : B ≤ sz)
    (h : ∀ a' c' w', Owns w' B (p ++ ⟨37, a', n + 1, c', xs ++ [v]⟩ :: q) → Below B w w' → sz ≤ w'.heap.size → wpList Try.prog ops Q rest (a.put o.dst (.slice a' (n + 1) c')) w') :
    wpList Try.prog ops Q (o :: rest) a (w.alloc (.cells #[v] 37)) :=
  wpList_append1s Try.underlying22 infoI8 rfl (by decide) p q s x sz hsz hgd ho hs hx hown hv (by omega) hB h
end
theorem I8_snoc {xs : List (BitVec 8)} (x : BitVec 8) : I8 (xs ++ [x]) = I8 xs ++ [.int .i8 x.toInt] := by simp [I8]
theorem wrap_i8' (n : Int) : IntKind.i8.wrap n = if n % 256 ≥ 128 then n % 256 - 256 else n % 256 := by simp [IntKind.wrap, IntKind.bits, IntKind.signed]
theorem i8_add (x y : BitVec 8) : IntKind.i8.wrap (x.toInt + y.toInt) = (x + y).toInt := by
  rw [wrap_i8', BitVec.toInt_add]
  unfold Int.bmod
  simp only []
  split <;> split <;> omega
theorem i8_neg (x : BitVec 8) : IntKind.i8.wrap (-x.toInt) = (-x).toInt := by
  rw [wrap_i8', BitVec.toInt_neg]
  unfold Int.bmod
  simp only []
  split <;> split <;> omega

theorem doAt_named {G H : List Nat} {X : List (BitVec 64)} {n : Nat} (h : ∀ i j, i < n → j < n → (G.getD i 0 = G.getD j 0 ↔ H.getD i 0 = H.getD j 0)) : ∀ k, k ≤ n → doAt G X k = doAt H X k := by
  intro k
  induction k with
  | zero => intro _; rfl
  | succ k ih =>
    intro hk
    rw [doAt_succ, doAt_succ, ih (by omega)]
    have e : G.getD k 0 ∈ (doAt H X k).1.map (G.getD · 0) ↔ H.getD k 0 ∈ (doAt H X k).1.map (H.getD · 0) := by
      simp only [List.mem_map]
      constructor
      · rintro ⟨x, hx, he⟩
        have := doAt_lt hx
        exact ⟨x, hx, (h x k (by omega) (by omega)).1 he⟩
      · rintro ⟨x, hx, he⟩
        have := doAt_lt hx
        exact ⟨x, hx, (h x k (by omega) (by omega)).2 he⟩
    unfold doStep
    by_cases hm : G.getD k 0 ∈ (doAt H X k).1.map (G.getD · 0)
    · rw [if_pos hm, if_pos (e.1 hm)]
    · rw [if_neg hm, if_neg (fun hh => hm (e.2 hh))]
theorem seenDo_named {G H : List Nat} {X : List (BitVec 64)} {n : Nat} (h : ∀ i j, i < n → j < n → (G.getD i 0 = G.getD j 0 ↔ H.getD i 0 = H.getD j 0)) : seenDo G X n = seenDo H X n := by
  unfold seenDo
  apply List.map_congr_left
  intro k hk
  rw [doAt_named h (k + 1) (by have := List.mem_range.1 hk; omega)]
def other (s : BitVec 8) (gs : List (BitVec 8)) : List (BitVec 8) := gs.map fun g => -g + s
theorem places_eq {gs : List (BitVec 8)} {i j : Nat} (hi : i < gs.length) (hj : j < gs.length) : (places gs).getD i 0 = (places gs).getD j 0 ↔ gs[i] = gs[j] := by
  have h1 := (places_get hi).1
  have h2 := (places_get hj).1
  constructor
  · intro h
    rw [h] at h1
    exact BitVec.eq_of_toInt_eq (by omega)
  · intro h
    rw [h] at h1
    omega
theorem other_same {s : BitVec 8} {gs : List (BitVec 8)} {n : Nat} (hn : gs.length = n) : ∀ i j, i < n → j < n → ((places gs).getD i 0 = (places gs).getD j 0 ↔ (places (other s gs)).getD i 0 = (places (other s gs)).getD j 0) := by
  intro i j hi hj
  rw [places_eq (by omega) (by omega), places_eq (by simp [other]; omega) (by simp [other]; omega)]
  simp [other]

set_option maxHeartbeats 6400000 in
set_option maxRecDepth 100000 in
theorem fnOnceGroupsNamed_any (w : World) (a0 : Option Addr) (n0 c0 : Nat) (x0 : List (BitVec 8)) (k0 : Came w a0 n0 c0 (I8 x0)) (a1 : Option Addr) (n1 c1 : Nat) (x1 : List (BitVec 64)) (k1 : Came w a1 n1 c1 (U x1)) (x2 : BitVec 8) (bd0 : n0 * 1 ≤ 140737488351232) (bd1 : n1 * 8 ≤ 140737488351232) :
    Calls Try.prog 5 #[.slice a0 n0 c0, .slice a1 n1 c1, .int .i8 x2.toInt] w fun e w' => e = .returned (.bool true) ∧ Below w.heap.size w w' := by
  have K0 := Lib.hid k0.i8; have K1 := Lib.hid k1.u64
  clear k0 k1
  have hc0 := K0.out.2.2.1; have hc1 := K1.out.2.2.1
  obtain ⟨n, hn⟩ : ∃ n, min n0 n1 = n := ⟨_, rfl⟩
  have hnn : n ≤ n0 ∧ n ≤ n1 := by omega
  obtain ⟨A0, hs0, hA0, hr0⟩ := slice_to Try.underlying22 (fun _ => by kernel_rfl) a0 n0 c0 n (by omega) K0.out.2.2.2
  obtain ⟨A1, hs1, hA1, hr1⟩ := slice_to Try.underlying23 (fun _ => by kernel_rfl) a1 n1 c1 n (by omega) K1.out.2.2.2
  have HR0 := Lib.hid (I8_take ▸ hr0 w _ K0.out.1 (by simp [I8, K0.out.2.1]; omega))
  have HR1 := Lib.hid (U_take ▸ hr1 w _ K1.out.1 (by simp [U, K1.out.2.1]; omega))
  clear hr0 hr1
  have HL0 : Hid ((x0.take n).length = n) := by show _ = _; simp [K0.out.2.1]; omega
  have HL1 : Hid ((x1.take n).length = n) := by show _ = _; simp [K1.out.2.1]; omega
  obtain ⟨gs, hgs⟩ : ∃ G, x0.take n = G := ⟨_, rfl⟩
  rw [hgs] at HL0 HR0
  obtain ⟨ot, hot⟩ : ∃ o, other x2 gs = o := ⟨_, rfl⟩
  have HOL : Hid (ot.length = n) := by show _ = _; rw [← hot]; simp [other, HL0.out]
  have HOG : Hid (∀ k (h : k < ot.length) (h' : k < gs.length), ot[k] = -gs[k] + x2) := by refine Lib.hid ?_; subst hot; intro k h h'; simp [other]
  obtain ⟨G, hG⟩ : ∃ G, places gs = G := ⟨_, rfl⟩
  obtain ⟨H, hH⟩ : ∃ G, places ot = G := ⟨_, rfl⟩
  obtain ⟨X, hX⟩ : ∃ X, x1.take n = X := ⟨_, rfl⟩
  rw [hX] at HL1 HR1
  have hsame := other_same (s := x2) HL0.out
  rw [hot, hG, hH] at hsame
  obtain ⟨seen, hseen⟩ : ∃ s, seenDo G X n = s := ⟨_, rfl⟩
  obtain ⟨ran, hran⟩ : ∃ r, (doAt G X n).1 = r := ⟨_, rfl⟩
  have hseen' : seenDo H X n = seen := by rw [← seenDo_named hsame]; exact hseen
  have hran' : (doAt H X n).1 = ran := by rw [← doAt_named hsame n (Nat.le_refl _)]; exact hran
  have HSL : Hid (seen.length = n) := by show _ = _; rw [← hseen]; simp [seenDo]
  have hrl : ran.length ≤ n := by rw [← hran]; exact doAt_short n
  have HC : Hid (∀ wv : World, Below w.heap.size w wv → Calls Try.prog 11 #[.slice A0 n c0, .slice A1 n c1] wv (Done wv n seen ran)) := by
    refine Lib.hid fun wv hwv => ?_
    exact onceDo_any wv A0 A1 n n c0 c1 n gs X HL0.out (HR0.out.mono hwv (Nat.le_refl _)) HL1.out (HR1.out.mono hwv (Nat.le_refl _)) (by omega) (by omega) (by omega) G hG seen hseen ran hran
  have HC2 : Hid (∀ (wv : World) (ao : Option Addr) (co : Nat), Below w.heap.size w wv → Rd wv ao (I8 ot) → Calls Try.prog 11 #[.slice ao n co, .slice A1 n c1] wv (Done wv n seen ran)) := by
    refine Lib.hid fun wv ao co hwv ho => ?_
    exact onceDo_any wv ao A1 n n co c1 n ot X HOL.out ho HL1.out (HR1.out.mono hwv (Nat.le_refl _)) (by omega) (by omega) (by omega) H hH seen hseen' ran hran'
  clear hseen hran hseen' hran' hG hH hX hot hgs HR1 HL1 hA0 hA1 hsame
  have tmin : (min (n0 : Int) (n1 : Int)) = (n : Int) := by omega
  have tn : ((n : Int) == (n : Int)) = true := by simp
  have O0 := Lib.hid ((Owns.nil w w.heap.size).made (Nat.le_refl _) 37 #[] (by simp))
  have B0 := Lib.hid ((Below.refl w.heap.size w).alloc (Nat.le_refl _) (.cells #[] 37))
  by_cases hlt : (n1 : Int) < (n0 : Int)
  · have hnn1 : n = n1 := by omega
    obtain rfl := hnn1
    go_enter Try.func5, Try.ntmps5
    go_wp2
    go_loopw [25, 8] (fun i v wr => ∃ (k : Nat) (e0 : Option Addr) (g0 : Nat), k ≤ n ∧ i = .int .i64 k ∧ v = .slice e0 k g0 ∧ Owns wr w.heap.size [⟨37, e0, k, g0, I8 (ot.take k)⟩] ∧ Below w.heap.size w wr) (fun i _ _ => n - (intOf i).toNat)
    case atStart => exact ⟨0, _, _, Nat.zero_le _, rfl, rfl, O0.out, B0.out⟩
    case round =>
      clear O0 B0
      obtain ⟨k, e0, g0, hk, rfl, rfl, ho, hb⟩ := hrel
      have hsz := hb.size
      by_cases hlt2 : k < n
      · have lg : k < gs.length := by rw [HL0.out]; exact hlt2
        have lo : k < ot.length := by rw [HOL.out]; exact hlt2
        obtain ⟨ba, oa, rfl, qa⟩ := at_i8 HR0.out hb (Nat.le_refl _) lg
        have HV := Lib.hid (HOG.out k lo lg)
        obtain ⟨g, hg⟩ : ∃ g, gs[k] = g := ⟨_, rfl⟩
        rw [hg] at qa HV
        have t1 := i8_neg g
        have t2 := i8_add (-g) x2
        have HTK : Hid (I8 (ot.take (k + 1)) = I8 (ot.take k) ++ [.int .i8 (-g + x2).toInt]) := by refine Lib.hid ?_; rw [List.take_succ_eq_append_getElem lo, I8_snoc, HV.out]
        generalize (-g + x2).toInt = z at t2 HTK
        generalize (-g).toInt = y at t1 t2
        have HO := Lib.hid ho; have HB := Lib.hid hb
        clear ho hb hg HV
        go_wp2_with (at_builtin; refine app8is [] [] (.tmp 29) (.tmp 34) rfl rfl wr.heap.size rfl rfl rfl HO.out rfl (by omega) (by omega) ?_)
        intro e1 g1 w2 ho2 hb2 hs2
        have HO2 : Hid (Owns w2 w.heap.size [⟨37, e1, (k + 1), g1, I8 (ot.take (k + 1))⟩]) := by
          refine Lib.hid ?_
          rw [HTK.out]
          exact ho2
        have HB2 := Lib.hid (HB.out.trans hb2)
        clear ho2 hb2 HO HB
        go_wp2
        go_roundw
        case rel => exact ⟨k + 1, e1, g1, by omega, by go_num, rfl, HO2.out, HB2.out⟩
        case measure => simp [intOf] <;> omega
      · have hkn : n = k := by omega
        subst hkn
        rw [List.take_of_length_le (by rw [HOL.out]; omega)] at ho
        have HO := Lib.hid ho; have HB := Lib.hid hb
        clear ho hb HOG HR0
        go_wp2
        go_region_with (go_at_call 11; refine (HC.out _ (by exact HB.out.drew)).mono ?_; rintro e w1 ⟨s0, d0, s1, d1, rfl, ho, hb⟩)
        all_goals
          have B1 := Lib.hid (Below.more HB.out.drew hb hsz)
          have O1 := Lib.hid (HO.out.drew.more hb ho hsz)
          have hz1 : w.heap.size ≤ w1.heap.size := B1.out.size
          clear ho hb HO HB HC
          go_wp2_with fail
          refine (HC2.out w1 e0 g0 B1.out (O1.out.rdAt 0 rfl)).mono ?_
          rintro e w2 ⟨s2, d2, s3, d3, rfl, ho, hb⟩
          have B2 := Lib.hid (Below.more B1.out hb hz1)
          have O2 := Lib.hid (O1.out.more hb ho hz1)
          have hz2 : w.heap.size ≤ w2.heap.size := B2.out.size
          clear ho hb O1 B1 HC2
          go_wp2_with fail
          refine (sameWords_any s0 s2 d0 d2 n n seen seen w2 (O2.out.rdAt 1 rfl) (O2.out.rdAt 3 rfl) HSL.out HSL.out (by omega) (by omega) true (by simp)).mono ?_
          rintro e w3 ⟨rfl, hb⟩
          have O3 := Lib.hid (O2.out.mono hb (Nat.le_refl _)); have B3 := Lib.hid (Below.more B2.out hb hz2)
          have hz3 : w.heap.size ≤ w3.heap.size := B3.out.size
          clear hb O2 B2 hz2
          go_wp2_with fail
          refine (sameInts_any s1 s3 d1 d3 ran.length ran.length ran ran w3 (O3.out.rdAt 2 rfl) (O3.out.rdAt 4 rfl) rfl rfl (by omega) (by omega) true (by simp)).mono ?_
          rintro e w4 ⟨rfl, hb⟩
          have O4 := Lib.hid (O3.out.mono hb (Nat.le_refl _)); have B4 := Lib.hid (Below.more B3.out hb hz3)
          have hz4 : w.heap.size ≤ w4.heap.size := B4.out.size
          clear hb O3 B3 hz3
          go_wp2_with fail
          refine (oAlive_any w4).mono ?_
          rintro e w5 ⟨rfl, hb⟩
          have O5 := Lib.hid (O4.out.mono hb (Nat.le_refl _)); have B5 := Lib.hid (Below.more B4.out hb hz4)
          have hz5 : w.heap.size ≤ w5.heap.size := B5.out.size
          clear hb O4 B4 hz4
          go_wp2
          go_ret
          exact ⟨rfl, B5.out⟩
  · have hnn1 : n = n0 := by omega
    obtain rfl := hnn1
    go_enter Try.func5, Try.ntmps5
    go_wp2
    go_loopw [25, 8] (fun i v wr => ∃ (k : Nat) (e0 : Option Addr) (g0 : Nat), k ≤ n ∧ i = .int .i64 k ∧ v = .slice e0 k g0 ∧ Owns wr w.heap.size [⟨37, e0, k, g0, I8 (ot.take k)⟩] ∧ Below w.heap.size w wr) (fun i _ _ => n - (intOf i).toNat)
    case atStart => exact ⟨0, _, _, Nat.zero_le _, rfl, rfl, O0.out, B0.out⟩
    case round =>
      clear O0 B0
      obtain ⟨k, e0, g0, hk, rfl, rfl, ho, hb⟩ := hrel
      have hsz := hb.size
      by_cases hlt2 : k < n
      · have lg : k < gs.length := by rw [HL0.out]; exact hlt2
        have lo : k < ot.length := by rw [HOL.out]; exact hlt2
        obtain ⟨ba, oa, rfl, qa⟩ := at_i8 HR0.out hb (Nat.le_refl _) lg
        have HV := Lib.hid (HOG.out k lo lg)
        obtain ⟨g, hg⟩ : ∃ g, gs[k] = g := ⟨_, rfl⟩
        rw [hg] at qa HV
        have t1 := i8_neg g
        have t2 := i8_add (-g) x2
        have HTK : Hid (I8 (ot.take (k + 1)) = I8 (ot.take k) ++ [.int .i8 (-g + x2).toInt]) := by refine Lib.hid ?_; rw [List.take_succ_eq_append_getElem lo, I8_snoc, HV.out]
        generalize (-g + x2).toInt = z at t2 HTK
        generalize (-g).toInt = y at t1 t2
        have HO := Lib.hid ho; have HB := Lib.hid hb
        clear ho hb hg HV
        go_wp2_with (at_builtin; refine app8is [] [] (.tmp 29) (.tmp 34) rfl rfl wr.heap.size rfl rfl rfl HO.out rfl (by omega) (by omega) ?_)
        intro e1 g1 w2 ho2 hb2 hs2
        have HO2 : Hid (Owns w2 w.heap.size [⟨37, e1, (k + 1), g1, I8 (ot.take (k + 1))⟩]) := by
          refine Lib.hid ?_
          rw [HTK.out]
          exact ho2
        have HB2 := Lib.hid (HB.out.trans hb2)
        clear ho2 hb2 HO HB
        go_wp2
        go_roundw
        case rel => exact ⟨k + 1, e1, g1, by omega, by go_num, rfl, HO2.out, HB2.out⟩
        case measure => simp [intOf] <;> omega
      · have hkn : n = k := by omega
        subst hkn
        rw [List.take_of_length_le (by rw [HOL.out]; omega)] at ho
        have HO := Lib.hid ho; have HB := Lib.hid hb
        clear ho hb HOG HR0
        go_wp2
        go_region_with (go_at_call 11; refine (HC.out _ (by exact HB.out.drew)).mono ?_; rintro e w1 ⟨s0, d0, s1, d1, rfl, ho, hb⟩)
        all_goals
          have B1 := Lib.hid (Below.more HB.out.drew hb hsz)
          have O1 := Lib.hid (HO.out.drew.more hb ho hsz)
          have hz1 : w.heap.size ≤ w1.heap.size := B1.out.size
          clear ho hb HO HB HC
          go_wp2_with fail
          refine (HC2.out w1 e0 g0 B1.out (O1.out.rdAt 0 rfl)).mono ?_
          rintro e w2 ⟨s2, d2, s3, d3, rfl, ho, hb⟩
          have B2 := Lib.hid (Below.more B1.out hb hz1)
          have O2 := Lib.hid (O1.out.more hb ho hz1)
          have hz2 : w.heap.size ≤ w2.heap.size := B2.out.size
          clear ho hb O1 B1 HC2
          go_wp2_with fail
          refine (sameWords_any s0 s2 d0 d2 n n seen seen w2 (O2.out.rdAt 1 rfl) (O2.out.rdAt 3 rfl) HSL.out HSL.out (by omega) (by omega) true (by simp)).mono ?_
          rintro e w3 ⟨rfl, hb⟩
          have O3 := Lib.hid (O2.out.mono hb (Nat.le_refl _)); have B3 := Lib.hid (Below.more B2.out hb hz2)
          have hz3 : w.heap.size ≤ w3.heap.size := B3.out.size
          clear hb O2 B2 hz2
          go_wp2_with fail
          refine (sameInts_any s1 s3 d1 d3 ran.length ran.length ran ran w3 (O3.out.rdAt 2 rfl) (O3.out.rdAt 4 rfl) rfl rfl (by omega) (by omega) true (by simp)).mono ?_
          rintro e w4 ⟨rfl, hb⟩
          have O4 := Lib.hid (O3.out.mono hb (Nat.le_refl _)); have B4 := Lib.hid (Below.more B3.out hb hz3)
          have hz4 : w.heap.size ≤ w4.heap.size := B4.out.size
          clear hb O3 B3 hz3
          go_wp2_with fail
          refine (oAlive_any w4).mono ?_
          rintro e w5 ⟨rfl, hb⟩
          have O5 := Lib.hid (O4.out.mono hb (Nat.le_refl _)); have B5 := Lib.hid (Below.more B4.out hb hz4)
          have hz5 : w.heap.size ≤ w5.heap.size := B5.out.size
          clear hb O4 B4 hz4
          go_wp2
          go_ret
          exact ⟨rfl, B5.out⟩
end Go.Proofs.Ytjjmjjbeecmmlaf
