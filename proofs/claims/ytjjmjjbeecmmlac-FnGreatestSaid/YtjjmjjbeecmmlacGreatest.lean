/-
  The walk of FnGreatest: numbers compared in leave the greatest one.
-/
import Derived.Test.YtjjmjjbeecmmlacCall
import Derived.Test.YtjjmjjbeecmmlacSlices
import Derived.Test.YtjjmjjbeecmmlacFrame
namespace Go.Proofs.Ytjjmjjbeecmmlac
set_option linter.unusedVariables false
set_option linter.unusedSimpArgs false
open Go.RowKit

/-- The greatest number so far, and how many were greater than all before. -/
def peak (f : BitVec 64) (l : List (BitVec 64)) : BitVec 64 × Nat := l.foldl (fun p x => if p.1.toNat < x.toNat then (x, p.2 + 1) else p) (f, 0)

section
variable {f : BitVec 64} {l : List (BitVec 64)} {k : Nat}
theorem peak_up {x : BitVec 64} (hk : k < l.length) (hx : l[k] = x) (h : (peak f (l.take k)).1.toNat < x.toNat) : peak f (l.take (k + 1)) = (x, (peak f (l.take k)).2 + 1) := by
  rw [List.take_succ_eq_append_getElem hk, hx]
  unfold peak at h ⊢
  rw [List.foldl_append]
  simp only [List.foldl_cons, List.foldl_nil]
  rw [if_pos h]
theorem peak_keep {x : BitVec 64} (hk : k < l.length) (hx : l[k] = x) (h : ¬ (peak f (l.take k)).1.toNat < x.toNat) : peak f (l.take (k + 1)) = peak f (l.take k) := by
  rw [List.take_succ_eq_append_getElem hk, hx]
  unfold peak at h ⊢
  rw [List.foldl_append]
  simp only [List.foldl_cons, List.foldl_nil]
  rw [if_neg h]
theorem peak_le : (peak f l).2 ≤ l.length := by
  have : ∀ (l : List (BitVec 64)) (p : BitVec 64 × Nat), (l.foldl (fun p x => if p.1.toNat < x.toNat then (x, p.2 + 1) else p) p).2 ≤ p.2 + l.length := by
    intro l
    induction l with
    | nil => intro p; simp
    | cons x l ih =>
      intro p
      simp only [List.foldl_cons, List.length_cons]
      have := ih (if p.1.toNat < x.toNat then (x, p.2 + 1) else p)
      have h2 : (if p.1.toNat < x.toNat then (x, p.2 + 1) else p).2 ≤ p.2 + 1 := by split <;> simp
      omega
  simpa [peak] using this l (f, 0)
end

theorem Owns.nilcap {w : World} {B : Nat} {L : List Row} {e : TypeId} {a : Option Addr} {n c : Nat} {xs : List Value} (h : Owns w B L) (i : Nat) (hi : L[i]? = some ⟨e, a, n, c, xs⟩) : a = none → c = 0 := fun ha => ((h.cap i hi).2.2 ha).2

set_option maxHeartbeats 3200000 in
set_option maxRecDepth 100000 in
theorem fnGreatest_any (w : World) (x0 : BitVec 64) (a1 : Option Addr) (n1 c1 : Nat) (x1 : List (BitVec 64)) (k1 : Came w a1 n1 c1 (U x1)) (bd1 : n1 * 8 ≤ 140737488351232) :
    Calls Try.prog 3 #[.int .u64 (x0.toNat : Int), .slice a1 n1 c1] w fun e w' => e = .returned (.bool true) ∧ Below w.heap.size w w' := by
  have K1 := Lib.hid k1.u64
  clear k1
  have hnot : ∀ (x : Bool) (w : World), (Op.unary .not (.bool x)).run Try.prog w = .ok (.bool (!x)) w := fun _ _ => rfl
  have O0 := Lib.hid (Owns.nil w w.heap.size); have B0 := Lib.hid (Below.refl w.heap.size w)
  have hz0 : w.heap.size ≤ w.heap.size := Nat.le_refl _
  have O1 := Lib.hid (O0.out.made hz0 22 #[.int .u64 (x0.toNat : Int)] (by simp [maxLen])); have B1 := Lib.hid (B0.out.alloc hz0 (.cells #[.int .u64 (x0.toNat : Int)] 22))
  have hz1 := Lib.hid B1.out.size
  clear O0 B0 hz0
  go_enter Try.func3, Try.ntmps3
  go_wp2
  go_loopw [27, 5, 6] (fun i v d wr => ∃ (k : Nat) (e0 : Option Addr) (g0 : Nat), k ≤ n1 ∧ i = .int .i64 k ∧ v = .slice e0 1 g0 ∧ d = .int .i64 ((peak x0 (x1.take k)).2 : Nat) ∧ Owns wr w.heap.size [⟨22, e0, 1, g0, U [(peak x0 (x1.take k)).1]⟩] ∧ Below w.heap.size w wr) (fun i _ _ _ => n1 - (intOf i).toNat)
  case atStart => exact ⟨0, _, _, Nat.zero_le _, rfl, rfl, rfl, O1.out, B1.out⟩
  case round =>
    clear O1 B1 hz1
    obtain ⟨k, e0, g0, hk, rfl, rfl, rfl, ho, hb⟩ := hrel
    have hsz := hb.size
    have hcl : (peak x0 (x1.take k)).2 ≤ n1 := by have := peak_le (f := x0) (l := x1.take k); simp at this; omega
    by_cases hlt : k < n1
    · have lx : k < x1.length := by rw [K1.out.2.1]; exact hlt
      obtain ⟨ba, oa, rfl, qa⟩ := at_u64 K1.out.1 hb (Nat.le_refl _) lx
      obtain ⟨x, hx⟩ : ∃ x, x1[k] = x := ⟨_, rfl⟩
      rw [hx] at qa
      have HUP := Lib.hid (peak_up (f := x0) lx hx); have HKP := Lib.hid (peak_keep (f := x0) lx hx)
      obtain ⟨p, hp⟩ : ∃ p, (peak x0 (x1.take k)).1 = p := ⟨_, rfl⟩
      obtain ⟨c, hc⟩ : ∃ c, (peak x0 (x1.take k)).2 = c := ⟨_, rfl⟩
      rw [hp, hc] at HUP
      rw [hp] at HKP
      rw [hp] at ho
      rw [hc] at hcl
      have HP := Lib.hid hp; have HCC := Lib.hid hc
      rw [hc]
      obtain ⟨w0, rfl⟩ : ∃ w0 : World, w0 = wr := ⟨_, rfl⟩
      have O1 := Lib.hid ho; have B1 := Lib.hid hb; have hz1 := hsz
      clear ho hb hsz hx hp hc
      obtain ⟨w1, rfl⟩ : ∃ w1 : World, w1 = w0 := ⟨_, rfl⟩
      go_wp2_with fail
      refine (call_any w1 e0 g0 1 [p] 0#8 0 0 0 rfl rfl rfl rfl rfl (O1.out.rdAt 0 rfl) (O1.out.nilcap 0 rfl) (by omega) (by omega) p [p] rfl rfl).mono ?_
      rintro e w2 ⟨e1, g1, rfl, ho, hb⟩
      have O2 := Lib.hid (O1.out.more hb ho hz1); have B2 := Lib.hid (Below.more B1.out hb hz1)
      have hz2 : w.heap.size ≤ w2.heap.size := B2.out.size
      clear ho hb O1 B1 hz1
      by_cases hge : x.toNat ≤ p.toNat
      · have HE := Lib.hid (HKP.out (by omega))
        have O3 := Lib.hid (O2.out.drop (L' := [⟨22, e0, 1, g0, U [p]⟩]) (by simp))
        go_wp2
        go_roundw
        case rel => exact ⟨k + 1, e0, g0, by omega, by go_num, rfl, by rw [HE.out, HCC.out], by rw [HE.out, HP.out]; exact O3.out, B2.out⟩
        case measure => simp [intOf]; omega
      · have HE := Lib.hid (HUP.out (by omega))
        have hpx : ¬ x = p := by intro e; subst e; omega
        go_wp2_with fail
        refine (call_any w2 e1 g1 1 [p] 4#8 0 p x rfl rfl rfl rfl rfl (O2.out.rdAt 1 rfl) (O2.out.nilcap 1 rfl) (by omega) (by omega) 1#64 [x] (by simp [Call.step]) (by simp [Call.step])).mono ?_
        rintro e w3 ⟨e2, g2, rfl, ho, hb⟩
        have O3 := Lib.hid (O2.out.more hb ho hz2); have B3 := Lib.hid (Below.more B2.out hb hz2)
        have hz3 : w.heap.size ≤ w3.heap.size := B3.out.size
        clear ho hb O2 B2 hz2
        go_wp2_with fail
        refine (call_any w3 e2 g2 1 [x] 4#8 0 p x0 rfl rfl rfl rfl rfl (O3.out.rdAt 2 rfl) (O3.out.nilcap 2 rfl) (by omega) (by omega) 0#64 [x] (by simp [Call.step, hpx]) (by simp [Call.step, hpx])).mono ?_
        rintro e w4 ⟨e3, g3, rfl, ho, hb⟩
        have O4 := Lib.hid (O3.out.more hb ho hz3); have B4 := Lib.hid (Below.more B3.out hb hz3)
        have hz4 : w.heap.size ≤ w4.heap.size := B4.out.size
        clear ho hb O3 B3 hz3
        have O5 := Lib.hid (O4.out.drop (L' := [⟨22, e3, 1, g3, U [x]⟩]) (by simp))
        clear hpx
        go_wp2
        go_roundw
        case rel => exact ⟨k + 1, e3, g3, by omega, by go_num, rfl, by rw [HE.out]; go_num, by rw [HE.out]; exact O5.out, B4.out⟩
        case measure => simp [intOf]; omega
    · rw [List.take_of_length_le (by rw [K1.out.2.1]; omega)] at ho hcl ⊢
      obtain ⟨p, hp⟩ : ∃ p, (peak x0 x1).1 = p := ⟨_, rfl⟩
      obtain ⟨c, hc⟩ : ∃ c, (peak x0 x1).2 = c := ⟨_, rfl⟩
      rw [hp] at ho
      rw [hc] at hcl ⊢
      have HP := Lib.hid hp; have HCC := Lib.hid hc
      obtain ⟨w1, rfl⟩ : ∃ w1 : World, w1 = wr := ⟨_, rfl⟩
      have O1 := Lib.hid ho; have B1 := Lib.hid hb; have hz1 := hsz
      clear ho hb hsz hp hc
      go_wp2
      go_loopw [77, 16, 17] (fun i v d wr => ∃ k : Nat, k ≤ n1 ∧ i = .int .i64 k ∧ v = .int .u64 ((peak x0 (x1.take k)).1.toNat : Int) ∧ d = .int .i64 ((peak x0 (x1.take k)).2 : Nat) ∧ wr = w1) (fun i _ _ _ => n1 - (intOf i).toNat)
      case atStart => exact ⟨0, Nat.zero_le _, rfl, rfl, rfl, rfl⟩
      case round =>
        obtain ⟨k, hk, rfl, rfl, rfl, rfl⟩ := hrel
        have hcl2 : (peak x0 (x1.take k)).2 ≤ n1 := by have := peak_le (f := x0) (l := x1.take k); simp at this; omega
        by_cases hlt : k < n1
        · have lx : k < x1.length := by rw [K1.out.2.1]; exact hlt
          obtain ⟨ba, oa, rfl, qa⟩ := at_u64 K1.out.1 B1.out (Nat.le_refl _) lx
          obtain ⟨x, hx⟩ : ∃ x, x1[k] = x := ⟨_, rfl⟩
          rw [hx] at qa
          have HUP := Lib.hid (peak_up (f := x0) lx hx); have HKP := Lib.hid (peak_keep (f := x0) lx hx)
          obtain ⟨p', hp⟩ : ∃ p, (peak x0 (x1.take k)).1 = p := ⟨_, rfl⟩
          obtain ⟨c', hc⟩ : ∃ c, (peak x0 (x1.take k)).2 = c := ⟨_, rfl⟩
          rw [hp, hc] at HUP
          rw [hp] at HKP
          rw [hc] at hcl2
          have HP' := Lib.hid hp; have HCC' := Lib.hid hc
          rw [hp, hc]
          clear hx hp hc
          by_cases hge : p'.toNat < x.toNat
          · have HE := Lib.hid (HUP.out hge)
            go_wp2
            go_roundw
            case rel => exact ⟨k + 1, by omega, by go_num, by rw [HE.out], by rw [HE.out]; go_num, by first | rfl | trivial⟩
            case measure => simp [intOf]; omega
          · have HE := Lib.hid (HKP.out hge)
            go_wp2
            go_roundw
            case rel => exact ⟨k + 1, by omega, by go_num, by rw [HE.out, HP'.out], by rw [HE.out, HCC'.out], by first | rfl | trivial⟩
            case measure => simp [intOf]; omega
        · rw [List.take_of_length_le (by rw [K1.out.2.1]; omega)]
          rw [HP.out, HCC.out]
          clear hcl2
          have tp : ((p.toNat : Int) == (p.toNat : Int)) = true := by simp
          have tc : ((c : Int) == (c : Int)) = true := by simp
          go_wp2_with fail
          refine (call_any wr e0 g0 1 [p] 0#8 0 0 0 rfl rfl rfl rfl rfl (O1.out.rdAt 0 rfl) (O1.out.nilcap 0 rfl) (by omega) (by omega) p [p] rfl rfl).mono ?_
          rintro e w2 ⟨e1, g1, rfl, ho, hb⟩
          have B2 := Lib.hid (Below.more B1.out hb hz1)
          clear ho hb
          go_wp2
          go_ret
          exact ⟨rfl, B2.out⟩
end Go.Proofs.Ytjjmjjbeecmmlac
