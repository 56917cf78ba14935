/-
  The contracts of sameInts, oHas and oFirsts; slices made by make.
-/
import Derived.Test.YtjjmjjbeecmmlaeOArgs
namespace Go.Proofs.Ytjjmjjbeecmmlae
set_option linter.unusedVariables false
set_option linter.unusedSimpArgs false
open Go.RowKit

theorem oHas_any (a : Option Addr) (ca n x : Nat) (xs : List Nat) (w : World) (hx : Rd w a (NI xs)) (hn : xs.length = n) (bn : n ≤ 17592186043904) (r : Bool) (hr : r = decide (x ∈ xs)) :
    Calls Try.prog 11 #[.slice a n ca, .int .i64 (x : Int)] w fun e w' => e = .returned (.bool r) ∧ w' = w := by
  have HR := Lib.hid hr; have HN := Lib.hid hn
  clear hr hn
  go_enter Try.func11, Try.ntmps11
  go_wp2
  go_loopw [9] (fun i wr => ∃ k : Nat, k ≤ n ∧ i = .int .i64 k ∧ ¬ x ∈ xs.take k ∧ wr = w) (fun i _ => n - (intOf i).toNat)
  case atStart => exact ⟨0, Nat.zero_le _, rfl, by simp, rfl⟩
  case round =>
    obtain ⟨k, hk, rfl, htk, rfl⟩ := hrel
    have HT := Lib.hid htk
    clear htk
    by_cases hlt : k < n
    · have lx : k < xs.length := by rw [HN.out]; exact hlt
      obtain ⟨b1, o1, rfl, c1⟩ := at_int hx (Below.refl _ _) (Nat.le_refl _) lx
      obtain ⟨y, hy⟩ : ∃ y, xs[k] = y := ⟨_, rfl⟩
      rw [hy] at c1
      have HY := Lib.hid hy
      clear hx hy
      by_cases he : y = x
      · subst he
        have t1 : ((y : Int) == (y : Int)) = true := by simp
        go_wp2
        go_ret
        exact ⟨ret_bool (a := true) (by rw [HR.out]; symm; rw [decide_eq_true_eq, ← HY.out]; exact List.getElem_mem _), rfl⟩
      · have t1 : ((y : Int) == (x : Int)) = false := by rw [beq_eq_false_iff_ne]; omega
        go_wp2
        go_roundw
        case rel =>
          refine ⟨k + 1, by omega, by go_num, ?_, by first | rfl | trivial⟩
          rw [List.take_succ_eq_append_getElem lx, HY.out]
          simp only [List.mem_append, List.mem_singleton]
          rintro (h | h)
          · exact HT.out h
          · exact he h.symm
        case measure => simp [intOf]; omega
    · go_wp2
      go_ret
      exact ⟨ret_bool (a := false) (by
        rw [HR.out]; symm; rw [decide_eq_false_iff_not]
        have := HT.out
        rwa [List.take_of_length_le (by rw [HN.out]; omega)] at this), rfl⟩

theorem made_u64 (n : Nat) : (madeCells #[.int .u64 0] n).toList = U (List.replicate n 0) := by
  simp only [madeCells, U]
  rw [List.map_replicate]
  apply List.ext_getElem
  · simp
  · intro i h1 h2
    simp [Nat.mod_one]
/-- A slice made by 'make', beside rows of the call's own. -/
theorem Owns.makes {wp w1 : World} {B : Nat} {L : List Row} {e : TypeId} {n b : Nat} {xs : List Value} (h : Owns wp B L) (hB : B ≤ wp.heap.size) (hb : wp.heap.size = b) (ho : w1.ownsRow b e 1 (.slice (some ⟨b, 0, none⟩) n n) n xs) (hg : wp.grownBy w1 none) :
    Owns w1 B (L ++ [⟨e, some ⟨b, 0, none⟩, n, n, xs⟩]) ∧ Below wp.heap.size wp w1 := by
  subst hb
  have hbl := (Below.refl wp.heap.size wp).grown hg (Nat.le_refl _) (by simp)
  exact ⟨h.more hbl ⟨by intro r hr; simp at hr; subst hr; exact ho, by simp⟩ hB, hbl⟩


/-- The different ones of some calls, in the order in which they come first. -/
def firsts (l : List Nat) : List Nat := l.foldl (fun a i => if i ∈ a then a else a ++ [i]) []
theorem firsts_snoc {l : List Nat} {k i : Nat} (h : k < l.length) (hi : l[k] = i) : firsts (l.take (k + 1)) = if i ∈ firsts (l.take k) then firsts (l.take k) else firsts (l.take k) ++ [i] := by
  unfold firsts
  rw [List.take_succ_eq_append_getElem h, List.foldl_append, hi]
  rfl
theorem firsts_le : ∀ (l : List Nat), (firsts l).length ≤ l.length := by
  have : ∀ (l a : List Nat), (l.foldl (fun a i => if i ∈ a then a else a ++ [i]) a).length ≤ a.length + l.length := by
    intro l
    induction l with
    | nil => intro a; simp
    | cons x l ih =>
      intro a
      rw [List.foldl_cons]
      have h1 := ih (if x ∈ a then a else a ++ [x])
      have h2 : (if x ∈ a then a else a ++ [x]).length ≤ a.length + 1 := by split <;> simp
      simp only [List.length_cons]
      omega
  intro l
  simpa [firsts] using this l []

set_option maxHeartbeats 800000 in
theorem oFirsts_any (w : World) (a : Option Addr) (n c m : Nat) (xs ys : List Nat) (hr : Rd w a (NI xs)) (hn : xs.length = n) (bn : n ≤ 1048576) (hys : firsts xs = ys) (hm : ys.length = m) :
    Calls Try.prog 16 #[.slice a n c] w (One w 3 m (NI ys)) := by
  have hnot : ∀ (x : Bool) (w : World), (Op.unary .not (.bool x)).run Try.prog w = .ok (.bool (!x)) w := fun _ _ => rfl
  have HR := Lib.hid hr; have HN := Lib.hid hn; have HY := Lib.hid hys; have HM := Lib.hid hm
  clear hr hn hys hm
  have hp := Lib.hid ((Owns.nil w w.heap.size).made (Nat.le_refl _) 3 #[] (by simp))
  have hbp := Lib.hid ((Below.refl w.heap.size w).alloc (Nat.le_refl _) (.cells #[] 3))
  go_enter Try.func16, Try.ntmps16
  go_wp2
  go_loopw [9, 3] (fun i v wr => ∃ (j l : Nat) (e0 : Option Addr) (g0 : Nat), j ≤ n ∧ (firsts (xs.take j)).length = l ∧ i = .int .i64 j ∧ v = .slice e0 l g0 ∧ Owns wr w.heap.size [⟨3, e0, l, g0, NI (firsts (xs.take j))⟩] ∧ Below w.heap.size w wr) (fun i _ _ => n - (intOf i).toNat)
  case atStart => exact ⟨0, 0, _, _, Nat.zero_le _, rfl, rfl, rfl, by simpa [firsts] using hp.out, hbp.out⟩
  case round =>
    clear hp hbp
    obtain ⟨j, l, e0, g0, hj, hl, rfl, rfl, ho, hb⟩ := hrel
    have hsz := hb.size
    have bl : l ≤ n := by rw [← hl]; have := firsts_le (xs.take j); simp at this; omega
    have HL := Lib.hid hl
    clear hl
    by_cases hlt : j < n
    · have lj : j < xs.length := by rw [HN.out]; exact hlt
      obtain ⟨b, o, rfl, q⟩ := at_int HR.out hb (Nat.le_refl _) lj
      obtain ⟨x, hx⟩ : ∃ x, xs[j] = x := ⟨_, rfl⟩
      rw [hx] at q
      have HS := Lib.hid (firsts_snoc lj hx)
      have HO := Lib.hid ho; have HB := Lib.hid hb
      clear ho hb hx
      by_cases hm : x ∈ firsts (xs.take j)
      · have HE : Hid (firsts (xs.take (j + 1)) = firsts (xs.take j)) := by show _ = _; rw [HS.out, if_pos hm]
        have HMM := Lib.hid hm
        clear hm
        go_wp2_with fail
        refine (oHas_any e0 g0 l x (firsts (xs.take j)) wr (HO.out.rdAt 0 rfl) HL.out (by omega) true (by simp [HMM.out])).mono ?_
        rintro e w1 ⟨rfl, rfl⟩
        go_wp2
        go_roundw
        case rel => exact ⟨j + 1, l, e0, g0, by omega, by rw [HE.out, HL.out], by go_num, rfl, by rw [HE.out]; exact HO.out, HB.out⟩
        case measure => simp [intOf] <;> omega
      · have HE : Hid (firsts (xs.take (j + 1)) = firsts (xs.take j) ++ [x]) := by show _ = _; rw [HS.out, if_neg hm]
        have HMM := Lib.hid hm
        clear hm
        go_wp2_with fail
        refine (oHas_any e0 g0 l x (firsts (xs.take j)) wr (HO.out.rdAt 0 rfl) HL.out (by omega) false (by simp [HMM.out])).mono ?_
        rintro e w1 ⟨rfl, rfl⟩
        go_wp2_with (at_builtin; refine app3s [] [] (.tmp 17) (.tmp 19) rfl rfl w1.heap.size rfl rfl rfl HO.out rfl (by omega) (by omega) ?_)
        intro e1 g1 w2 ho1 hb1 hs1
        have HR1 : Hid (Owns w2 w.heap.size [⟨3, e1, l + 1, g1, NI (firsts (xs.take (j + 1)))⟩]) := by refine Lib.hid ?_; rw [HE.out, NI_snoc]; exact ho1
        have HT1 := Lib.hid (HB.out.trans hb1)
        clear ho1 hb1 HO HB
        go_wp2
        go_roundw
        case rel => exact ⟨j + 1, l + 1, e1, g1, by omega, by rw [HE.out, List.length_append, HL.out]; rfl, by go_num, rfl, HR1.out, HT1.out⟩
        case measure => simp [intOf] <;> omega
    · rw [List.take_of_length_le (by rw [HN.out]; omega), HY.out] at HL
      rw [List.take_of_length_le (by rw [HN.out]; omega), HY.out] at ho
      have hml : m = l := by rw [← HM.out, HL.out]
      subst hml
      have HO := Lib.hid ho; have HB := Lib.hid hb
      clear ho hb
      go_wp2
      go_ret
      exact ⟨e0, g0, rfl, HO.out, HB.out⟩
end Go.Proofs.Ytjjmjjbeecmmlae
