/-
  The contracts of oNumbers, oCalls and oParents: the arguments that the laws hand on.
-/
import Derived.Test.YtjjmjjbeecmmlaeRead
namespace Go.Proofs.Ytjjmjjbeecmmlae
set_option linter.unusedVariables false
set_option linter.unusedSimpArgs false
open Go.RowKit

/-- The beginning of a slice. -/
theorem slice_to {P : Program} {t e : TypeId} (ht : P.underlying t = some (.slice e)) (hz : ∀ w : World, (sizeOf e).run P w = .ok 1 w) (a : Option Addr) (n c hi : Nat) (h2 : hi ≤ c) (hnil : a = none → c = 0) :
    ∃ A, (∀ w : World, (Instr.slice t (.slice a n c) none (some (.int .i64 (hi : Int))) none).run P w = .ok (.slice A hi c) w) ∧ (A = none → c = 0) ∧
      ∀ (w : World) (xs : List Value), Rd w a xs → hi ≤ xs.length → Rd w A (xs.take hi) := by
  have he : P.elem t = e := by simp [Program.elem, ht]
  refine ⟨if c = 0 then a else a.map (·.add 0), ?_, ?_, ?_⟩
  · intro w
    rw [run_slice_h (P := P) w t a n c (by rw [he]; exact ht) .i64 (hi : Int) (by omega) (by omega), he, hz]
    simp only [Result.andThen_ok, sliced, Int.toNat_natCast, Nat.mul_one, Nat.sub_zero]
  · intro h
    by_cases hc : c = 0
    · exact hc
    · rw [if_neg hc] at h
      cases a with
      | none => exact hnil rfl
      | some x => simp at h
  · intro w xs hr hl
    intro i hi'
    simp only [List.length_take] at hi'
    have hk : i < xs.length := by omega
    obtain ⟨b, off, ha, hc⟩ := hr i hk
    rw [if_neg (by omega), ha]
    refine ⟨b, off, by simp [Addr.add_lit], ?_⟩
    rw [hc, List.getElem?_take, if_pos (by omega)]

set_option maxHeartbeats 800000 in
theorem oNumbers_any (w : World) (a : Option Addr) (n c k : Nat) (xs ys : List (BitVec 64)) (hr : Rd w a (U xs)) (hn : xs.length = n) (hc : n ≤ c) (hnil : a = none → c = 0) (bn : n ≤ 17592186043904) (hys : xs.take 12 = ys) (hk : ys.length = k) :
    Calls Try.prog 12 #[.slice a n c] w (One w 24 k (U ys)) := by
  have hk2 : k ≤ n ∧ k ≤ 12 ∧ (n ≤ 12 → k = n) ∧ (12 < n → k = 12) := by
    rw [← hys] at hk
    simp [hn] at hk
    omega
  obtain ⟨k1, k2, k3, k4⟩ := hk2
  obtain ⟨A, hs, hA, hR⟩ := slice_to Try.underlying23 (fun _ => by kernel_rfl) a n c k (by omega) hnil
  have HC := Lib.hid (copied_any A c k ys w (by
    have := hR w _ hr (by simp [hn]; omega)
    have e : (U xs).take k = U ys := by
      rw [← hys]
      unfold U
      rw [← List.map_take]
      congr 1
      by_cases h : n ≤ 12
      · rw [k3 h, List.take_of_length_le (by omega), List.take_of_length_le (by omega)]
      · rw [k4 (by omega)]
    rw [e] at this
    exact this) hk hA (by omega))
  clear hR hr hn hys hk hA hnil
  by_cases h : n ≤ 12
  · obtain rfl := k3 h
    have t0 : ¬ ((12 : Int) < (k : Int)) := by omega
    clear k3 k4
    go_enter Try.func12, Try.ntmps12
    go_wp2_with fail
    refine HC.out.mono ?_
    rintro e w' ⟨a', c', rfl, ho, hb⟩
    have HO := Lib.hid ho; have HB := Lib.hid hb
    clear ho hb HC
    go_wp2
    go_ret
    exact ⟨a', c', rfl, HO.out, HB.out⟩
  · obtain rfl := k4 (by omega)
    have t0 : (12 : Int) < (n : Int) := by omega
    clear k3 k4
    replace hs : ∀ w : World, (Instr.slice 23 (.slice a n c) none (some (.int .i64 12)) none).run Try.prog w = .ok (.slice A 12 c) w := fun w => by simpa using hs w
    go_enter Try.func12, Try.ntmps12
    go_wp2_with fail
    refine HC.out.mono ?_
    rintro e w' ⟨a', c', rfl, ho, hb⟩
    have HO := Lib.hid ho; have HB := Lib.hid hb
    clear ho hb HC
    go_wp2
    go_ret
    exact ⟨a', c', rfl, HO.out, HB.out⟩

/-- The calls that bytes tell. -/
def oCalls (codes : List (BitVec 8)) (n : Nat) : List Nat := if n = 0 then [] else codes.map fun b => b.toNat % n
theorem oCalls_lt {codes : List (BitVec 8)} {n : Nat} : ∀ i ∈ oCalls codes n, i < n := by
  intro i hi
  unfold oCalls at hi
  split at hi
  · simp at hi
  · obtain ⟨b, _, rfl⟩ := List.mem_map.1 hi
    exact Nat.mod_lt _ (by omega)

set_option maxHeartbeats 800000 in
theorem oCalls_any (w : World) (a : Option Addr) (n c k m : Nat) (codes : List (BitVec 8)) (calls : List Nat) (hr : Rd w a (U8 codes)) (hn : codes.length = n) (bn : n ≤ 1048576) (hc : oCalls codes k = calls) (hm : calls.length = m) (bk : k ≤ 1048576) :
    Calls Try.prog 9 #[.slice a n c, .int .i64 (k : Int)] w (One w 3 m (NI calls)) := by
  have HR := Lib.hid hr; have HN := Lib.hid hn; have HC := Lib.hid hc; have HM := Lib.hid hm
  clear hr hn hc hm
  have hp := Lib.hid ((Owns.nil w w.heap.size).made (Nat.le_refl _) 3 #[] (by simp))
  have hbp := Lib.hid ((Below.refl w.heap.size w).alloc (Nat.le_refl _) (.cells #[] 3))
  by_cases hk0 : k = 0
  · subst hk0
    have hm0 : 0 = m := by rw [← HM.out, ← HC.out]; simp [oCalls]
    have HE : Hid (calls = []) := by show _ = _; rw [← HC.out]; simp [oCalls]
    subst hm0
    go_enter Try.func9, Try.ntmps9
    go_wp2
    go_loopw [11, 5] (fun i v wr => ∃ j : Nat, j ≤ n ∧ i = .int .i64 j ∧ v = .slice (some ⟨w.heap.size, 0, none⟩) 0 0 ∧ wr = w.alloc (.cells #[] 3)) (fun i _ _ => n - (intOf i).toNat)
    case atStart => exact ⟨0, Nat.zero_le _, rfl, rfl, rfl⟩
    case round =>
      obtain ⟨j, hj, rfl, rfl, rfl⟩ := hrel
      by_cases hlt : j < n
      · obtain ⟨b, o, rfl, q⟩ := at_u8 HR.out hbp.out (Nat.le_refl _) (k := j) (by rw [HN.out]; exact hlt)
        go_wp2
        go_roundw
        case rel => exact ⟨j + 1, by omega, by go_num, by first | exact ⟨rfl, rfl⟩ | exact ⟨rfl, trivial⟩ | rfl | trivial⟩
        case measure => simp [intOf]; omega
      · go_wp2
        go_ret
        exact ⟨_, _, rfl, by rw [HE.out]; simpa using hp.out, hbp.out⟩
  · have hk1 : 0 < k := by omega
    have HL : Hid (n = m) := by show _ = _; rw [← HM.out, ← HC.out]; simp [oCalls, hk0, HN.out]
    obtain rfl := HL.out
    go_enter Try.func9, Try.ntmps9
    go_wp2
    go_loopw [11, 5] (fun i v wr => ∃ (j : Nat) (e0 : Option Addr) (g0 : Nat), j ≤ n ∧ i = .int .i64 j ∧ v = .slice e0 j g0 ∧ Owns wr w.heap.size [⟨3, e0, j, g0, NI (calls.take j)⟩] ∧ Below w.heap.size w wr) (fun i _ _ => n - (intOf i).toNat)
    case atStart => exact ⟨0, _, _, Nat.zero_le _, rfl, rfl, by simpa using hp.out, hbp.out⟩
    case round =>
      clear hp hbp
      obtain ⟨j, e0, g0, hj, rfl, rfl, ho, hb⟩ := hrel
      have hsz := hb.size
      by_cases hlt : j < n
      · have lj : j < codes.length := by rw [HN.out]; exact hlt
        have lc : j < calls.length := by rw [HM.out]; exact hlt
        obtain ⟨b, o, rfl, q⟩ := at_u8 HR.out hb (Nat.le_refl _) lj
        obtain ⟨x, hx⟩ : ∃ x, codes[j] = x := ⟨_, rfl⟩
        rw [hx] at q
        have bx := x.isLt
        have HV : Hid (calls[j] = x.toNat % k) := by
          refine Lib.hid ?_
          simp only [← HC.out, oCalls, if_neg hk0, List.getElem_map, hx]
        obtain ⟨y, hy⟩ : ∃ y, x.toNat % k = y := ⟨_, rfl⟩
        have hye : ((x.toNat : Int) % (k : Int)) = (y : Int) := by rw [← hy]; simp
        have HT : Hid (NI (calls.take (j + 1)) = NI (calls.take j) ++ [.int .i64 (y : Int)]) := by
          refine Lib.hid ?_
          rw [List.take_succ_eq_append_getElem lc, NI_snoc, HV.out, hy]
        have HO := Lib.hid ho; have HB := Lib.hid hb
        clear ho hb hx hy
        go_wp2_with (at_builtin; refine app3s [] [] (.tmp 17) (.tmp 22) rfl rfl wr.heap.size rfl rfl rfl HO.out rfl (by omega) (by omega) ?_)
        intro e1 g1 w1 ho1 hb1 hs1
        have HR1 : Hid (Owns w1 w.heap.size [⟨3, e1, j + 1, g1, NI (calls.take (j + 1))⟩]) := by refine Lib.hid ?_; rw [HT.out]; exact ho1
        have HT1 := Lib.hid (HB.out.trans hb1)
        clear ho1 hb1 HO HB
        go_wp2
        go_roundw
        case rel => exact ⟨j + 1, e1, g1, by omega, by go_num, rfl, HR1.out, HT1.out⟩
        case measure => simp [intOf]; omega
      · obtain rfl : j = n := by omega
        rw [List.take_of_length_le (by rw [HM.out]; omega)] at ho
        have HO := Lib.hid ho; have HB := Lib.hid hb
        clear ho hb
        go_wp2
        go_ret
        exact ⟨e0, g0, rfl, HO.out, HB.out⟩
end Go.Proofs.Ytjjmjjbeecmmlae
