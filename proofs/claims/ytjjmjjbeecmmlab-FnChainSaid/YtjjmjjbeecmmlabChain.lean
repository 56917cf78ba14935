/-
  The walk of FnChain: compares that lead from each number to the next one are all done; in the opposite order the last one alone.
-/
import Derived.Test.YtjjmjjbeecmmlabGrow
import Derived.Test.YtjjmjjbeecmmlabSlices
import Derived.Test.YtjjmjjbeecmmlabSwapPlain
import Derived.Test.YtjjmjjbeecmmlabFrame
namespace Go.Proofs.Ytjjmjjbeecmmlab
set_option linter.unusedVariables false
set_option linter.unusedSimpArgs false
open Go.RowKit

/-- The different ones of some words, in the order in which they come first. -/
def dd (l : List (BitVec 64)) : List (BitVec 64) := l.foldl (fun acc x => if x ∈ acc then acc else acc ++ [x]) []

section
variable {l : List (BitVec 64)} {k : Nat}
theorem dd_zero : dd (l.take 0) = [] := by simp [dd]
theorem dd_in {x : BitVec 64} (hk : k < l.length) (hx : l[k] = x) (h : x ∈ dd (l.take k)) : dd (l.take (k + 1)) = dd (l.take k) := by
  rw [List.take_succ_eq_append_getElem hk, hx]
  unfold dd at h ⊢
  rw [List.foldl_append]
  simp only [List.foldl_cons, List.foldl_nil]
  rw [if_pos h]
theorem dd_out {x : BitVec 64} (hk : k < l.length) (hx : l[k] = x) (h : ¬ x ∈ dd (l.take k)) : dd (l.take (k + 1)) = dd (l.take k) ++ [x] := by
  rw [List.take_succ_eq_append_getElem hk, hx]
  unfold dd at h ⊢
  rw [List.foldl_append]
  simp only [List.foldl_cons, List.foldl_nil]
  rw [if_neg h]
theorem dd_nodup_le : (dd l).Nodup ∧ (dd l).length ≤ l.length := by
  have : ∀ (l acc : List (BitVec 64)), acc.Nodup → (l.foldl (fun acc x => if x ∈ acc then acc else acc ++ [x]) acc).Nodup ∧ (l.foldl (fun acc x => if x ∈ acc then acc else acc ++ [x]) acc).length ≤ acc.length + l.length := by
    intro l
    induction l with
    | nil => intro acc h; exact ⟨h, by simp⟩
    | cons x l ih =>
      intro acc h
      simp only [List.foldl_cons, List.length_cons]
      by_cases hx : x ∈ acc
      · rw [if_pos hx]
        have := ih acc h
        exact ⟨this.1, by omega⟩
      · rw [if_neg hx]
        have := ih (acc ++ [x]) (by
          rw [List.nodup_append]
          exact ⟨h, by simp, by simp; exact fun a ha e => hx (e ▸ ha)⟩)
        exact ⟨this.1, by have := this.2; simp at this; omega⟩
  simpa [dd] using this l [] List.nodup_nil
end

theorem U_take {xs : List (BitVec 64)} {i : Nat} {v : Value} (h : i < xs.length) (hv : v = .int .u64 (xs[i].toNat : Int)) : U (xs.take i) ++ [v] = U (xs.take (i + 1)) := by
  rw [List.take_succ_eq_append_getElem h, U_snoc, hv]
theorem U8_take {xs : List (BitVec 8)} {i : Nat} {v : Value} (h : i < xs.length) (hv : v = .int .u8 (xs[i].toNat : Int)) : U8 (xs.take i) ++ [v] = U8 (xs.take (i + 1)) := by
  rw [List.take_succ_eq_append_getElem h, U8_snoc, hv]
theorem NI_take {xs : List Nat} {i : Nat} {v : Value} (h : i < xs.length) (hv : v = .int .i64 (xs[i] : Int)) : NI (xs.take i) ++ [v] = NI (xs.take (i + 1)) := by
  rw [List.take_succ_eq_append_getElem h, NI_snoc, hv]

/-- What the chain's loop lays, as lists. -/
structure Chained (L : List (BitVec 64)) (m : Nat) (AS BS AS2 BS2 : List (BitVec 64)) : Prop where
  len : L.length = m + 1
  las : AS.length = m
  lbs : BS.length = m
  las2 : AS2.length = m
  lbs2 : BS2.length = m
  gas : ∀ i, (h : i < m) → AS[i]'(by omega) = L[i]'(by omega)
  gbs : ∀ i, (h : i < m) → BS[i]'(by omega) = L[i + 1]'(by omega)
  gas2 : ∀ i, (h : i < m) → AS2[i]'(by omega) = L[m - 1 - i]'(by omega)
  gbs2 : ∀ i, (h : i < m) → BS2[i]'(by omega) = L[m - i]'(by omega)
  kinds : kindsOf (links L) = List.replicate m 4#8 ∧ kindsOf (links L).reverse = List.replicate m 4#8
  cells : cellsOf (links L) = List.replicate m 0 ∧ cellsOf (links L).reverse = List.replicate m 0
  eas : asOf (links L) = AS ∧ asOf (links L).reverse = AS2
  ebs : bsOf (links L) = BS ∧ bsOf (links L).reverse = BS2
  ll : (links L).length = m

theorem chained {L : List (BitVec 64)} {m : Nat} (hl : L.length = m + 1) : Chained L m (asOf (links L)) (bsOf (links L)) (asOf (links L).reverse) (bsOf (links L).reverse) := by
  have ll : (links L).length = m := by rw [links_length]; omega
  have g : ∀ i, (h : i < m) → (links L)[i]'(by omega) = ⟨4#8, 0, L[i]'(by omega), L[i + 1]'(by omega)⟩ := fun i h => links_get L i (by omega)
  have gr : ∀ i, (h : i < m) → (links L).reverse[i]'(by simp; omega) = ⟨4#8, 0, L[m - 1 - i]'(by omega), L[m - i]'(by omega)⟩ := by
    intro i h
    rw [List.getElem_reverse]
    have e : (links L).length - 1 - i = m - 1 - i := by omega
    simp only [e]
    rw [g (m - 1 - i) (by omega)]
    have e2 : m - 1 - i + 1 = m - i := by omega
    simp only [e2]
  refine ⟨hl, by simp [ll], by simp [ll], by simp [ll], by simp [ll], ?_, ?_, ?_, ?_, ⟨?_, ?_⟩, ⟨?_, ?_⟩, ⟨rfl, rfl⟩, ⟨rfl, rfl⟩, ll⟩
  · intro i h; rw [asOf_get, g i h]
  · intro i h; rw [bsOf_get, g i h]
  · intro i h; rw [asOf_get, gr i h]
  · intro i h; rw [bsOf_get, gr i h]
  · refine List.eq_replicate_iff.2 ⟨by simp [ll], fun b hb => ?_⟩
    obtain ⟨d, hd, rfl⟩ := List.mem_map.1 hb
    exact (links_mem L d hd).1
  · refine List.eq_replicate_iff.2 ⟨by simp [ll], fun b hb => ?_⟩
    obtain ⟨d, hd, rfl⟩ := List.mem_map.1 hb
    exact (links_mem L d (List.mem_reverse.1 hd)).1
  · refine List.eq_replicate_iff.2 ⟨by simp [ll], fun b hb => ?_⟩
    obtain ⟨d, hd, rfl⟩ := List.mem_map.1 hb
    exact (links_mem L d hd).2.1
  · refine List.eq_replicate_iff.2 ⟨by simp [ll], fun b hb => ?_⟩
    obtain ⟨d, hd, rfl⟩ := List.mem_map.1 hb
    exact (links_mem L d (List.mem_reverse.1 hd)).2.1

theorem last_set (m : Nat) : (List.replicate (m + 1) (0 : BitVec 64)).set m 1 = List.replicate m 0 ++ [1] := by
  rw [List.replicate_succ', List.set_append_right _ _ (by simp)]
  simp

theorem slice_from {P : Program} {t e : TypeId} (ht : P.underlying t = some (.slice e)) (hz : ∀ w : World, (sizeOf e).run P w = .ok 1 w) (a : Option Addr) (n c lo : Nat) (h1 : lo ≤ n) (h2 : n ≤ c) :
    ∃ A, (∀ w : World, (Instr.slice t (.slice a n c) (some (.int .i64 (lo : Int))) none none).run P w = .ok (.slice A (n - lo) (c - lo)) w) ∧
      ∀ (w : World) (xs : List Value), Rd w a xs → n = xs.length → Rd w A (xs.drop lo) := by
  have he : P.elem t = e := by simp [Program.elem, ht]
  refine ⟨if c = lo then a else a.map (·.add lo), ?_, ?_⟩
  · intro w
    rw [run_slice_l (P := P) w t a n c (by rw [he]; exact ht) .i64 (lo : Int) (by omega) (by omega), he, hz]
    simp only [Result.andThen_ok, sliced, Int.toNat_natCast, Nat.mul_one]
  · intro w xs hr hl
    intro i hi'
    simp only [List.length_drop] at hi'
    have hk : lo + i < xs.length := by omega
    obtain ⟨b, off, ha, hc⟩ := hr (lo + i) hk
    rw [if_neg (by omega), ha]
    refine ⟨b, off + lo, by simp [Addr.add_lit], ?_⟩
    rw [Nat.add_assoc, hc, List.getElem?_drop]

theorem chain_last {L : List (BitVec 64)} {x y : BitVec 64} {rest : List (BitVec 64)} {n m : Nat} (hL : L = x :: y :: rest) (hn : L.length = n) (hm : n = m + 1) : (U L).drop m = U [(x :: y :: rest).getLast (by simp)] := by
  subst hL
  have e : m = (x :: y :: rest).length - 1 := by omega
  subst e
  have e : (x :: y :: rest).drop ((x :: y :: rest).length - 1) = [(x :: y :: rest).getLast (by simp)] := by
    rw [List.drop_eq_getElem_cons (by simp), List.drop_of_length_le (by simp), List.getLast_eq_getElem]
  unfold U
  rw [← List.map_drop, e]

set_option maxHeartbeats 3200000 in
set_option maxRecDepth 100000 in
theorem fnChain_any (w : World) (a0 : Option Addr) (n0 c0 : Nat) (x0 : List (BitVec 64)) (k0 : Came w a0 n0 c0 (U x0)) (bd0 : n0 * 8 ≤ 140737488351232) :
    Calls Try.prog 8 #[.slice a0 n0 c0] w fun e w' => e = .returned (.bool true) ∧ Below w.heap.size w w' := by
  have K0 := Lib.hid k0.u64
  clear k0
  have hnot : ∀ (x : Bool) (w : World), (Op.unary .not (.bool x)).run Try.prog w = .ok (.bool (!x)) w := fun _ _ => rfl
  have O0 := Lib.hid (Owns.nil w w.heap.size); have B0 := Lib.hid (Below.refl w.heap.size w)
  have hz0 : w.heap.size ≤ w.heap.size := Nat.le_refl _
  have hp := Lib.hid (O0.out.made hz0 28 #[] (by simp)); have hbp := Lib.hid (B0.out.alloc hz0 (.cells #[] 28))
  clear O0 B0 hz0
  go_enter Try.func8, Try.ntmps8
  go_wp2
  go_loopw [25, 3] (fun i v wr => ∃ (k : Nat) (e0 : Option Addr) (g0 : Nat), k ≤ n0 ∧ i = .int .i64 k ∧ v = .slice e0 (dd (x0.take k)).length g0 ∧ Owns wr w.heap.size [⟨28, e0, (dd (x0.take k)).length, g0, U (dd (x0.take k))⟩] ∧ Below w.heap.size w wr) (fun i _ _ => n0 - (intOf i).toNat)
  case atStart => exact ⟨0, _, _, Nat.zero_le _, rfl, rfl, by rw [dd_zero]; simpa using hp.out, hbp.out⟩
  case round =>
    clear hp hbp
    obtain ⟨k, e0, g0, hk, rfl, rfl, ho, hb⟩ := hrel
    have hsz := hb.size
    have hdl : (dd (x0.take k)).length ≤ k := by have := (dd_nodup_le (l := x0.take k)).2; simp at this; omega
    by_cases hlt : k < n0
    · have lx : k < x0.length := by rw [K0.out.2.1]; exact hlt
      obtain ⟨ba, oa, rfl, qa⟩ := at_u64 K0.out.1 hb (Nat.le_refl _) lx
      obtain ⟨x, hx⟩ : ∃ x, x0[k] = x := ⟨_, rfl⟩
      rw [hx] at qa
      have HX := Lib.hid hx
      obtain ⟨D, hD⟩ : ∃ D, dd (x0.take k) = D := ⟨_, rfl⟩
      have HIN : Hid (x ∈ D → dd (x0.take (k + 1)) = D) := by intro h; rw [← hD]; exact dd_in lx hx (by rw [hD]; exact h)
      have HOUT : Hid (¬ x ∈ D → dd (x0.take (k + 1)) = D ++ [x]) := by intro h; rw [← hD]; exact dd_out lx hx (by rw [hD]; exact h)
      rw [hD] at ho hdl ⊢
      obtain ⟨dn, hdn⟩ : ∃ dn, D.length = dn := ⟨_, rfl⟩
      rw [hdn] at ho hdl ⊢
      have HDN := Lib.hid hdn
      obtain ⟨wo, rfl⟩ : ∃ wo : World, wo = wr := ⟨_, rfl⟩
      have HO := Lib.hid ho; have HB := Lib.hid hb
      clear ho hb hx hD hdn
      go_wp2
      go_loopw [31, 6] (fun i v wr => ∃ (j : Nat) (kb : Bool), j ≤ dn ∧ i = .int .i64 j ∧ v = .bool kb ∧ (kb = true ↔ x ∈ D.take j) ∧ wr = wo) (fun i _ _ => dn - (intOf i).toNat)
      case atStart => exact ⟨0, false, Nat.zero_le _, rfl, rfl, by simp, rfl⟩
      case round =>
        obtain ⟨j, kb, hj, rfl, rfl, hkb, rfl⟩ := hrel
        have HKB := Lib.hid hkb
        clear hkb
        by_cases hlj : j < dn
        · have lj : j < D.length := by rw [HDN.out]; exact hlj
          obtain ⟨b0, rfl⟩ := HO.out.addr 0 rfl (k := j) (by simpa using lj)
          have q0 := HO.out.get64 0 rfl lj
          obtain ⟨y, hy⟩ : ∃ y, D[j] = y := ⟨_, rfl⟩
          rw [hy] at q0
          have HT : Hid (D.take (j + 1) = D.take j ++ [y]) := by show _ = _; rw [List.take_succ_eq_append_getElem lj, hy]
          clear hy
          cases kb with
          | true =>
            go_wp2
            go_roundw
            case rel => exact ⟨j + 1, true, by omega, by go_num, rfl, by rw [HT.out]; simp [HKB.out.1 rfl], by first | rfl | trivial⟩
            case measure => simp [intOf]; omega
          | false =>
            by_cases hxy : y = x
            · subst hxy
              have tx : ((y.toNat : Int) == (y.toNat : Int)) = true := by simp
              go_wp2
              go_roundw
              case rel => exact ⟨j + 1, true, by omega, by go_num, rfl, by rw [HT.out]; simp, by first | rfl | trivial⟩
              case measure => simp [intOf]; omega
            · have tx : ((y.toNat : Int) == (x.toNat : Int)) = false := by rw [beq_eq_false_iff_ne]; intro h; exact hxy (BitVec.eq_of_toNat_eq (by omega))
              have HXY := Lib.hid hxy
              clear hxy
              go_wp2
              go_roundw
              case rel => exact ⟨j + 1, false, by omega, by go_num, rfl, by rw [HT.out]; have := HKB.out; simp at this; simp [this]; exact fun h => HXY.out h.symm, by first | rfl | trivial⟩
              case measure => simp [intOf]; omega
        · have HA : Hid (kb = true ↔ x ∈ D) := by
            have := HKB.out
            rw [List.take_of_length_le (by rw [HDN.out]; omega)] at this
            exact this
          clear HKB
          cases kb with
          | true =>
            have HE := Lib.hid (HIN.out (HA.out.1 rfl))
            go_wp2
            go_roundw
            case rel => exact ⟨k + 1, e0, g0, by omega, by go_num, by rw [HE.out, HDN.out], by rw [HE.out, HDN.out]; exact HO.out, HB.out⟩
            case measure => simp [intOf]; omega
          | false =>
            have HE := Lib.hid (HOUT.out (fun h => by have := HA.out.2 h; simp at this))
            have HEL : Hid ((dd (x0.take (k + 1))).length = dn + 1) := by show _ = _; rw [HE.out, List.length_append, HDN.out]; rfl
            go_wp2_with (at_builtin; refine app30s [] [] (.tmp 44) (.tmp 46) rfl rfl wr.heap.size rfl rfl rfl HO.out rfl (by omega) (by omega) ?_)
            intro f0 j0 u1 ho1 hb1 hs1
            have hT := Lib.hid (HB.out.trans hb1)
            have hR : Hid (Owns u1 w.heap.size [⟨28, f0, dn + 1, j0, U (D ++ [x])⟩]) := by refine Lib.hid ?_; rw [U_snoc]; exact ho1
            clear ho1 hb1
            go_wp2
            go_roundw
            case rel => exact ⟨k + 1, f0, j0, by omega, by go_num, by rw [HEL.out], by rw [HEL.out, HE.out]; exact hR.out, hT.out⟩
            case measure => simp [intOf]; omega
    · rw [List.take_of_length_le (by rw [K0.out.2.1]; omega)] at ho hdl ⊢
      have HND := Lib.hid (dd_nodup_le (l := x0)).1
      obtain ⟨L, hL⟩ : ∃ L, dd x0 = L := ⟨_, rfl⟩
      rw [hL] at ho hdl HND ⊢
      obtain ⟨n, hn⟩ : ∃ n, L.length = n := ⟨_, rfl⟩
      rw [hn] at ho hdl ⊢
      have HN := Lib.hid hn
      obtain ⟨w1, rfl⟩ : ∃ w1 : World, w1 = wr := ⟨_, rfl⟩
      have O1 := Lib.hid ho; have B1 := Lib.hid hb; have hz1 := hsz
      clear ho hb hsz hL hn
      by_cases h2 : n < 2
      · go_wp2
        go_ret
        exact ⟨rfl, B1.out⟩
      obtain ⟨m, hm⟩ : ∃ m, n = m + 1 := ⟨n - 1, by omega⟩
      obtain ⟨q, hq⟩ : ∃ q, m = q + 1 := ⟨m - 1, by omega⟩
      have r1 : (n : Int) - 1 = (m : Int) := by omega
      have r2 : (n : Int) - 2 = (q : Int) := by omega
      have r3 : (m : Int) - 1 = (q : Int) := by omega
      have hmn : m < n := by omega
      have hqm : q < m := by omega
      have HMN := Lib.hid hm; have HQM := Lib.hid hq
      clear hm hq
      obtain ⟨AS, BS, AS2, BS2, hch⟩ : ∃ AS BS AS2 BS2, Chained L m AS BS AS2 BS2 := ⟨_, _, _, _, chained (by rw [HN.out, HMN.out])⟩
      have CH := Lib.hid hch
      clear hch
      have hp := Lib.hid ((((((((O1.out.made hz1 5 #[] (by simp)).made (by simp; omega) 3 #[] (by simp)).made (by simp; omega) 28 #[] (by simp)).made (by simp; omega) 28 #[] (by simp)).made (by simp; omega) 28 #[] (by simp)).made (by simp; omega) 28 #[] (by simp)).made (by simp; omega) 28 #[] (by simp)).made (by simp; omega) 28 #[] (by simp))
      have hbp := Lib.hid ((((((((B1.out.alloc hz1 (.cells #[] 5)).alloc (by simp; omega) (.cells #[] 3)).alloc (by simp; omega) (.cells #[] 28)).alloc (by simp; omega) (.cells #[] 28)).alloc (by simp; omega) (.cells #[] 28)).alloc (by simp; omega) (.cells #[] 28)).alloc (by simp; omega) (.cells #[] 28)).alloc (by simp; omega) (.cells #[] 28))
      clear O1 B1 hz1
      go_wp2
      go_loopw [63, 9, 10, 11, 12, 13, 14, 15, 16] (fun i v1 v2 v3 v4 v5 v6 v7 v8 wr => ∃ (j : Nat) (e1 e2 e3 e4 e5 e6 e7 e8 : Option Addr) (g1 g2 g3 g4 g5 g6 g7 g8 : Nat), j ≤ m ∧ i = .int .i64 j ∧ v1 = .slice e1 j g1 ∧ v2 = .slice e2 j g2 ∧ v3 = .slice e3 j g3 ∧ v4 = .slice e4 j g4 ∧ v5 = .slice e5 j g5 ∧ v6 = .slice e6 j g6 ∧ v7 = .slice e7 j g7 ∧ v8 = .slice e8 j g8 ∧ Owns wr w.heap.size [⟨28, e0, n, g0, U L⟩, ⟨5, e1, j, g1, U8 (List.replicate j 4#8)⟩, ⟨3, e2, j, g2, NI (List.replicate j 0)⟩, ⟨28, e3, j, g3, U (AS.take j)⟩, ⟨28, e4, j, g4, U (BS.take j)⟩, ⟨28, e5, j, g5, U (List.replicate j 1#64)⟩, ⟨28, e6, j, g6, U (List.replicate j 0#64)⟩, ⟨28, e7, j, g7, U (AS2.take j)⟩, ⟨28, e8, j, g8, U (BS2.take j)⟩] ∧ Below w.heap.size w wr) (fun i _ _ _ _ _ _ _ _ _ => m - (intOf i).toNat)
      case atStart => exact ⟨0, _, _, _, _, _, _, _, _, _, _, _, _, _, _, _, _, Nat.zero_le _, rfl, rfl, rfl, rfl, rfl, rfl, rfl, rfl, rfl, by simpa using hp.out, hbp.out⟩
      case round =>
        clear hp hbp
        obtain ⟨j, e1, e2, e3, e4, e5, e6, e7, e8, g1, g2, g3, g4, g5, g6, g7, g8, hj, rfl, rfl, rfl, rfl, rfl, rfl, rfl, rfl, rfl, ho, hb⟩ := hrel
        have hsz := hb.size
        by_cases hlj : j < m
        · obtain ⟨b0, rfl⟩ := ho.addr 0 rfl (k := j) (by simp [HN.out]; omega)
          obtain ⟨p, hp⟩ : ∃ p, p = m - 1 - j := ⟨_, rfl⟩
          obtain ⟨p', hp'⟩ : ∃ p', p' = m - j := ⟨_, rfl⟩
          have r4 : (q : Int) - (j : Int) = (p : Int) := by have := HQM.out; omega
          have r5 : (m : Int) - (j : Int) = (p' : Int) := by omega
          have hpn : p < n := by omega
          have hpn' : p' < n := by omega
          have hj1 : j + 1 < n := by omega
          have l0 : j < L.length := by rw [HN.out]; omega
          have l1 : j + 1 < L.length := by rw [HN.out]; omega
          have l2 : p < L.length := by rw [HN.out]; omega
          have l3 : p' < L.length := by rw [HN.out]; omega
          have v0 : Hid (AS[j]'(by rw [CH.out.las]; omega) = L[j]) := CH.out.gas j hlj
          have v1 : Hid (BS[j]'(by rw [CH.out.lbs]; omega) = L[j + 1]) := CH.out.gbs j hlj
          have v2 : Hid (AS2[j]'(by rw [CH.out.las2]; omega) = L[p]) := by have := CH.out.gas2 j hlj; subst hp; exact this
          have v3 : Hid (BS2[j]'(by rw [CH.out.lbs2]; omega) = L[p']) := by have := CH.out.gbs2 j hlj; subst hp'; exact this
          have HO := Lib.hid ho; have HB := Lib.hid hb
          clear ho hb hp hp'
          go_wp2_with (at_builtin; refine app5s [_] [_, _, _, _, _, _, _] (.tmp 66) (.tmp 67) rfl rfl wr.heap.size rfl rfl rfl HO.out rfl (by omega) (by omega) ?_)
          intro f1 t1 u1 ho1 hb1 hs1
          have HO1 := Lib.hid ho1; have HB1 := Lib.hid (HB.out.trans hb1)
          clear ho1 hb1 HO HB
          go_wp2_with (at_builtin; refine app3s [_, _] [_, _, _, _, _, _] (.tmp 69) (.tmp 70) rfl rfl u1.heap.size rfl rfl rfl HO1.out rfl (by omega) (by omega) ?_)
          intro f2 t2 u2 ho2 hb2 hs2
          have HO2 := Lib.hid ho2; have HB2 := Lib.hid (HB1.out.trans hb2)
          clear ho2 hb2 HO1 HB1
          have qq := HO2.out.get64 0 rfl l0
          go_wp2_with (at_builtin; refine app30s [_, _, _] [_, _, _, _, _] (.tmp 72) (.tmp 77) rfl rfl u2.heap.size rfl rfl rfl HO2.out rfl (by omega) (by omega) ?_)
          intro f3 t3 u3 ho3 hb3 hs3
          have HO3 := Lib.hid ho3; have HB3 := Lib.hid (HB2.out.trans hb3)
          clear ho3 hb3 HO2 HB2 qq
          have qq := HO3.out.get64 0 rfl l1
          go_wp2_with (at_builtin; refine app30s [_, _, _, _] [_, _, _, _] (.tmp 79) (.tmp 85) rfl rfl u3.heap.size rfl rfl rfl HO3.out rfl (by omega) (by omega) ?_)
          intro f4 t4 u4 ho4 hb4 hs4
          have HO4 := Lib.hid ho4; have HB4 := Lib.hid (HB3.out.trans hb4)
          clear ho4 hb4 HO3 HB3 qq
          go_wp2_with (at_builtin; refine app30s [_, _, _, _, _] [_, _, _] (.tmp 87) (.tmp 88) rfl rfl u4.heap.size rfl rfl rfl HO4.out rfl (by omega) (by omega) ?_)
          intro f5 t5 u5 ho5 hb5 hs5
          have HO5 := Lib.hid ho5; have HB5 := Lib.hid (HB4.out.trans hb5)
          clear ho5 hb5 HO4 HB4
          have qq := HO5.out.get64 0 rfl l2
          go_wp2_with (at_builtin; refine app30s [_, _, _, _, _, _, _] [_] (.tmp 90) (.tmp 99) rfl rfl u5.heap.size rfl rfl rfl HO5.out rfl (by omega) (by omega) ?_)
          intro f7 t7 u6 ho6 hb6 hs6
          have HO6 := Lib.hid ho6; have HB6 := Lib.hid (HB5.out.trans hb6)
          clear ho6 hb6 HO5 HB5 qq
          have qq := HO6.out.get64 0 rfl l3
          go_wp2_with (at_builtin; refine app30s [_, _, _, _, _, _, _, _] [] (.tmp 101) (.tmp 110) rfl rfl u6.heap.size rfl rfl rfl HO6.out rfl (by omega) (by omega) ?_)
          intro f8 t8 u7 ho7 hb7 hs7
          have HO7 := Lib.hid ho7; have HB7 := Lib.hid (HB6.out.trans hb7)
          clear ho7 hb7 HO6 HB6 qq
          go_wp2_with (at_builtin; refine app30s [_, _, _, _, _, _] [_, _] (.tmp 112) (.tmp 113) rfl rfl u7.heap.size rfl rfl rfl HO7.out rfl (by omega) (by omega) ?_)
          intro f6 t6 u8 ho8 hb8 hs8
          have HO8 := Lib.hid ho8; have HB8 := Lib.hid (HB7.out.trans hb8)
          clear ho8 hb8 HO7 HB7
          have hR : Hid (Owns u8 w.heap.size [⟨28, some ⟨b0, 0, none⟩, n, g0, U L⟩, ⟨5, f1, j + 1, t1, U8 (List.replicate (j + 1) 4#8)⟩, ⟨3, f2, j + 1, t2, NI (List.replicate (j + 1) 0)⟩, ⟨28, f3, j + 1, t3, U (AS.take (j + 1))⟩, ⟨28, f4, j + 1, t4, U (BS.take (j + 1))⟩, ⟨28, f5, j + 1, t5, U (List.replicate (j + 1) 1#64)⟩, ⟨28, f6, j + 1, t6, U (List.replicate (j + 1) 0#64)⟩, ⟨28, f7, j + 1, t7, U (AS2.take (j + 1))⟩, ⟨28, f8, j + 1, t8, U (BS2.take (j + 1))⟩]) := by
            refine Lib.hid ?_
            have z1 : U8 (List.replicate j 4#8) ++ [.int .u8 4] = U8 (List.replicate (j + 1) 4#8) := by rw [List.replicate_succ', U8_snoc]; rfl
            have z2 : NI (List.replicate j 0) ++ [.int .i64 0] = NI (List.replicate (j + 1) 0) := by rw [List.replicate_succ', NI_snoc]; rfl
            have z3 := U_take (xs := AS) (i := j) (v := .int .u64 (L[j].toNat : Int)) (by rw [CH.out.las]; exact hlj) (by rw [v0.out])
            have z4 := U_take (xs := BS) (i := j) (v := .int .u64 (L[j + 1].toNat : Int)) (by rw [CH.out.lbs]; exact hlj) (by rw [v1.out])
            have z5 : U (List.replicate j 1#64) ++ [.int .u64 1] = U (List.replicate (j + 1) 1#64) := by rw [List.replicate_succ', U_snoc]; rfl
            have z6 : U (List.replicate j 0#64) ++ [.int .u64 0] = U (List.replicate (j + 1) 0#64) := by rw [List.replicate_succ', U_snoc]; rfl
            have z7 := U_take (xs := AS2) (i := j) (v := .int .u64 (L[p].toNat : Int)) (by rw [CH.out.las2]; exact hlj) (by rw [v2.out])
            have z8 := U_take (xs := BS2) (i := j) (v := .int .u64 (L[p'].toNat : Int)) (by rw [CH.out.lbs2]; exact hlj) (by rw [v3.out])
            rw [← z1, ← z2, ← z3, ← z4, ← z5, ← z6, ← z7, ← z8]
            exact HO8.out
          clear HO8 v0 v1 v2 v3 r4 r5
          go_wp2
          go_roundw
          case rel => exact ⟨j + 1, f1, f2, f3, f4, f5, f6, f7, f8, t1, t2, t3, t4, t5, t6, t7, t8, by omega, by go_num, rfl, rfl, rfl, rfl, rfl, rfl, rfl, rfl, hR.out, HB8.out⟩
          case measure => simp [intOf]; omega
        · have hjm : m = j := by omega
          subst hjm
          have tk : ∀ {α : Type} (l : List α), l.length = m → l.take m = l := fun l h => List.take_of_length_le (by omega)
          rw [tk _ CH.out.las, tk _ CH.out.lbs, tk _ CH.out.las2, tk _ CH.out.lbs2] at ho
          clear tk
          obtain ⟨x, y, rest, hLx⟩ : ∃ x y rest, L = x :: y :: rest := by
            match L, HN.out with
            | [], h => simp at h; omega
            | [_], h => simp at h; omega
            | x :: y :: rest, _ => exact ⟨x, y, rest, rfl⟩
          have HLX := Lib.hid hLx
          have hrl : Hid (rest.length = q) := by have h1 := HN.out; have h2 := HMN.out; have h3 := HQM.out; rw [hLx] at h1; simp at h1; show _ = _; omega
          have HR1 : Hid (runL [x] (links L) = (List.replicate m 1, [(x :: y :: rest).getLast (by simp)])) := by
            refine Lib.hid ?_
            rw [hLx, links_run x (y :: rest)]
            simp [hrl.out, HQM.out]
          have HR2 : Hid (runL [x] (links L).reverse = (List.replicate q 0 ++ [1], [y])) := by
            refine Lib.hid ?_
            rw [hLx, links_back x y rest (by rw [← hLx]; exact HND.out), hrl.out]
          have HG0 : Hid (∀ h : 0 < L.length, L[0] = x) := by rw [hLx]; intro h; rfl
          clear hLx
          -- turned[len(turned)-1] = 1
          obtain ⟨b0, rfl⟩ := ho.addr 0 rfl (k := 0) (by simp [HN.out]; omega)
          obtain ⟨b6, rfl⟩ := ho.addr 6 rfl (k := q) (by simp; omega)
          obtain ⟨u6, q6⟩ := ho.has 6 rfl (k := q) (by simp; omega)
          have f6 := ho.free 6 rfl q
          obtain ⟨ho2, hb2⟩ := Owns.stored (p := [_, _, _, _, _, _]) ho rfl q (.int .u64 1)
          have e6 : (U (List.replicate m 0#64)).set q (.int .u64 1) = U (List.replicate q 0 ++ [1]) := by
            have := U_set (xs := List.replicate m (0 : BitVec 64)) (i := q) 1
            have h2 := last_set q
            rw [← HQM.out] at h2
            rw [h2] at this
            exact this
          replace ho2 : Owns (wr.setCell ⟨b6, q, none⟩ (.int .u64 1)) w.heap.size [⟨28, some ⟨b0, 0, none⟩, n, g0, U L⟩, ⟨5, e1, m, g1, U8 (List.replicate m 4#8)⟩, ⟨3, e2, m, g2, NI (List.replicate m 0)⟩, ⟨28, e3, m, g3, U AS⟩, ⟨28, e4, m, g4, U BS⟩, ⟨28, e5, m, g5, U (List.replicate m 1#64)⟩, ⟨28, some ⟨b6, 0, none⟩, m, g6, U (List.replicate q 0 ++ [1])⟩, ⟨28, e7, m, g7, U AS2⟩, ⟨28, e8, m, g8, U BS2⟩] := by rw [← e6]; exact ho2
          have q0 := ho2.get64 0 rfl (k := 0) (by rw [HN.out]; omega)
          rw [HG0.out] at q0
          have O2 := Lib.hid ho2; have B2 := Lib.hid (hb.trans hb2)
          have hz2 := Lib.hid B2.out.size
          clear ho2 hb2 ho hb e6 HG0
          have O3 := Lib.hid (O2.out.made hz2 28 #[.int .u64 (x.toNat : Int)] (by simp [maxLen])); have B3 := Lib.hid (B2.out.alloc hz2 (.cells #[.int .u64 (x.toNat : Int)] 28))
          have hz3 := Lib.hid B3.out.size
          clear O2 B2 hz2
          go_wp2_with fail
          refine (run64_any _ (some ⟨wr.heap.size, 0, none⟩) e1 e2 e3 e4 1 g1 g2 g3 g4 1 m [x] (links L) rfl CH.out.ll (by have := O3.out.rdAt 9 rfl; simp only [World.size_setCell] at this; exact this) (by rw [CH.out.kinds.1]; exact O3.out.rdAt 1 rfl) (by rw [CH.out.cells.1]; exact O3.out.rdAt 2 rfl) (by rw [CH.out.eas.1]; exact O3.out.rdAt 3 rfl) (by rw [CH.out.ebs.1]; exact O3.out.rdAt 4 rfl) (by omega) (by omega) (by intro d hd; rw [(links_mem L d hd).2.1]; omega)).mono ?_
          rintro e w4 ⟨s1, d1, s2, d2, rfl, ho, hb⟩
          have O4 := Lib.hid (O3.out.more hb ho hz3); have B4 := Lib.hid (Below.more B3.out hb hz3)
          have hz4 : w.heap.size ≤ w4.heap.size := B4.out.size
          clear ho hb O3 B3 hz3
          clear q0 q6 f6
          have q0 := O4.out.get64 0 rfl (k := 0) (by rw [HN.out]; omega)
          have HG1 : Hid (∀ h : 0 < L.length, L[0] = x) := by rw [HLX.out]; intro h; rfl
          rw [HG1.out] at q0
          have O5 := Lib.hid (O4.out.made hz4 28 #[.int .u64 (x.toNat : Int)] (by simp [maxLen])); have B5 := Lib.hid (B4.out.alloc hz4 (.cells #[.int .u64 (x.toNat : Int)] 28))
          have hz5 := Lib.hid B5.out.size
          clear O4 B4 hz4
          go_wp2_with fail
          refine (run64_any _ (some ⟨w4.heap.size, 0, none⟩) e1 e2 e7 e8 1 g1 g2 g7 g8 1 m [x] (links L).reverse rfl (by simp [CH.out.ll]) (O5.out.rdAt 12 rfl) (by rw [CH.out.kinds.2]; exact O5.out.rdAt 1 rfl) (by rw [CH.out.cells.2]; exact O5.out.rdAt 2 rfl) (by rw [CH.out.eas.2]; exact O5.out.rdAt 7 rfl) (by rw [CH.out.ebs.2]; exact O5.out.rdAt 8 rfl) (by omega) (by omega) (by intro d hd; rw [(links_mem L d (List.mem_reverse.1 hd)).2.1]; omega)).mono ?_
          rintro e w6 ⟨s3, d3, s4, d4, rfl, ho, hb⟩
          have O6 := Lib.hid (O5.out.more hb ho hz5); have B6 := Lib.hid (Below.more B5.out hb hz5)
          have hz6 : w.heap.size ≤ w6.heap.size := B6.out.size
          clear ho hb O5 B5 hz5
          clear q0
          have hcp := (O6.out.cap 0 rfl).1
          obtain ⟨A1, hs1, hr1⟩ := slice_from Try.underlying22 (fun _ => by kernel_rfl) (some ⟨b0, 0, none⟩) n g0 m (by omega) hcp
          obtain ⟨A2, hs2, hr2⟩ := slice_part Try.underlying22 (fun _ => by kernel_rfl) (some ⟨b0, 0, none⟩) n g0 1 2 (by omega) (by omega)
          replace hs2 : ∀ w : World, (Instr.slice 22 (.slice (some ⟨b0, 0, none⟩) n g0) (some (.int .i64 1)) (some (.int .i64 2)) none).run Try.prog w = .ok (.slice A2 1 (g0 - 1)) w := fun w => by simpa using hs2 w
          have HR1' := Lib.hid hr1; have HR2' := Lib.hid hr2
          have hnm : n - m = 1 := by have := HMN.out; omega
          rw [hnm] at hs1
          clear hr1 hr2
          go_wp2_with fail
          refine (sameWords_any s1 e5 d1 g5 m m (runL [x] (links L)).1 (List.replicate m 1) w6 (O6.out.rdAt 10 rfl) (O6.out.rdAt 5 rfl) (by rw [runL_fst_length, CH.out.ll]) (by simp) (by omega) (by omega) true (by rw [HR1.out]; simp)).mono ?_
          rintro e w7 ⟨rfl, hb⟩
          have O7 := Lib.hid (O6.out.mono hb (Nat.le_refl _)); have B7 := Lib.hid (Below.more B6.out hb hz6)
          have hz7 : w.heap.size ≤ w7.heap.size := B7.out.size
          clear hb O6 B6 hz6
          have RA := Lib.hid (HR1'.out w7 _ (O7.out.rdAt 0 rfl) (by simp [HN.out]))
          go_wp2_with fail
          refine (sameWords_any s2 A1 d2 _ 1 1 (runL [x] (links L)).2 [(x :: y :: rest).getLast (by simp)] w7 (O7.out.rdAt 11 rfl) (by have := RA.out; rw [chain_last HLX.out HN.out HMN.out] at this; exact this) (by rw [runL_snd_length]; rfl) rfl (by omega) (by omega) true (by rw [HR1.out]; simp)).mono ?_
          rintro e w8 ⟨rfl, hb⟩
          have O8 := Lib.hid (O7.out.mono hb (Nat.le_refl _)); have B8 := Lib.hid (Below.more B7.out hb hz7)
          have hz8 : w.heap.size ≤ w8.heap.size := B8.out.size
          clear hb O7 B7 hz7
          go_wp2_with fail
          refine (sameWords_any s3 (some ⟨b6, 0, none⟩) d3 g6 m m (runL [x] (links L).reverse).1 (List.replicate q 0 ++ [1]) w8 (O8.out.rdAt 13 rfl) (O8.out.rdAt 6 rfl) (by rw [runL_fst_length]; simp [CH.out.ll]) (by simp [HQM.out]) (by omega) (by omega) true (by rw [HR2.out]; simp)).mono ?_
          rintro e w9 ⟨rfl, hb⟩
          have O9 := Lib.hid (O8.out.mono hb (Nat.le_refl _)); have B9 := Lib.hid (Below.more B8.out hb hz8)
          have hz9 : w.heap.size ≤ w9.heap.size := B9.out.size
          clear hb O8 B8 hz8
          have RB := Lib.hid (HR2'.out w9 _ (O9.out.rdAt 0 rfl) (by simp [HN.out]; omega))
          go_wp2_with fail
          refine (sameWords_any s4 A2 d4 _ 1 1 (runL [x] (links L).reverse).2 [y] w9 (O9.out.rdAt 14 rfl) (by have := RB.out; rw [HLX.out] at this; exact this) (by rw [runL_snd_length]; rfl) rfl (by omega) (by omega) true (by rw [HR2.out]; simp)).mono ?_
          rintro e w10 ⟨rfl, hb⟩
          have O10 := Lib.hid (O9.out.mono hb (Nat.le_refl _)); have B10 := Lib.hid (Below.more B9.out hb hz9)
          have hz10 : w.heap.size ≤ w10.heap.size := B10.out.size
          clear hb O9 B9 hz9
          go_wp2
          go_ret
          exact ⟨rfl, B10.out⟩
end Go.Proofs.Ytjjmjjbeecmmlab
