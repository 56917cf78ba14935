/-
  The contract of spec.Run64: it returns what the script answers, and the cells at last, in memory of its own.
-/
import Derived.Test.YtjjmjjbeecmmlaaRun
namespace Go.Proofs.Ytjjmjjbeecmmlaa
set_option linter.unusedVariables false
set_option linter.unusedSimpArgs false
open Go.RowKit

set_option maxHeartbeats 1600000 in
set_option maxRecDepth 100000 in
theorem spec64_any (w : World) (a0 a1 a2 a3 a4 : Option Addr) (c0 c1 c2 c3 c4 n m : Nat) (st : List (BitVec 64)) (sc : List (Call 64)) (hst : st.length = n) (hsc : sc.length = m) (hnil : a0 = none → n = 0 ∧ c0 = 0)
    (r0 : Rd w a0 (U st)) (r1 : Rd w a1 (U8 (kindsOf sc))) (r2 : Rd w a2 (NI (cellsOf sc))) (r3 : Rd w a3 (U (asOf sc))) (r4 : Rd w a4 (U (bsOf sc)))
    (bn : n ≤ 17592186043904) (bm : m ≤ 17592186043904) (hcell : ∀ c ∈ sc, c.cell < n) :
    Calls Try.prog 13 #[.slice a0 n c0, .slice a1 m c1, .slice a2 m c2, .slice a3 m c3, .slice a4 m c4] w (Two w 30 30 m n (U (runL st sc).1) (U (runL st sc).2)) := by
  obtain ⟨i0, hi, hz0, hz1, hz2⟩ := info_parts info30
  have Hst := Lib.hid hst; have Hsc := Lib.hid hsc; have HC := Lib.hid hcell; have HN0 := Lib.hid hnil
  have H0 := Lib.hid (Rd.mono r0 ((Below.refl w.heap.size w).alloc (Nat.le_refl _) (.cells #[] 30)) (Nat.le_refl _)); have H1 := Lib.hid r1; have H2 := Lib.hid r2; have H3 := Lib.hid r3; have H4 := Lib.hid r4
  have ho := Lib.hid (Owns.made (Owns.nil w w.heap.size) (Nat.le_refl _) 30 #[] (by simp))
  have hbl := Lib.hid ((Below.refl w.heap.size w).alloc (Nat.le_refl _) (.cells #[] 30))
  clear hst hsc hcell r0 r1 r2 r3 r4 hnil
  go_enter Try.func13, Try.ntmps13
  go_wp2_with (at_builtin; refine wpList_append_at _ rfl (.tmp 19) (.tmp 20) 22 rfl 30 i0 (.int .u64 0) 8 Try.underlying22 hi hz0 hz1 hz2 rfl (by decide) w.heap.size [] [] _ rfl rfl ho.out a0 n c0 (U st) rfl (by simp [Hst.out]) HN0.out H0.out U_one (by simp; omega) (by simp) ?_)
  intro al cl' w1 ho1 hb1
  replace ho1 : Owns w1 w.heap.size [⟨30, al, n, cl', U st⟩] := by simpa using ho1
  have hsz1 : w.heap.size ≤ w1.heap.size := by have := hb1.size; simp at this; omega
  have hp := Lib.hid (Owns.made ho1 hsz1 30 #[] (by simp))
  have hbp := Lib.hid ((hbl.out.trans hb1).alloc hsz1 (.cells #[] 30))
  clear ho1 hb1 ho hbl hsz1
  go_wp2
  go_loopw [25, 13] (fun i v wr => ∃ (k : Nat) (a : Option Addr) (c : Nat), k ≤ m ∧ i = .int .i64 k ∧ v = .slice a k c ∧ Owns wr w.heap.size [⟨30, al, n, cl', U (runL st (sc.take k)).2⟩, ⟨30, a, k, c, U (runL st (sc.take k)).1⟩] ∧ Below w.heap.size w wr) (fun i _ _ => m - (intOf i).toNat)
  case atStart => exact ⟨0, _, _, Nat.zero_le _, rfl, rfl, by simpa [runL] using hp.out, hbp.out⟩
  case round =>
    clear hp hbp
    obtain ⟨k, a, c, hk, rfl, rfl, ho, hb⟩ := hrel
    have hsz := hb.size
    by_cases hlt : k < m
    · have lx : k < sc.length := by rw [Hsc.out]; exact hlt
      obtain ⟨κ, cl, x, y, hcall⟩ : ∃ κ cl x y, sc[k] = ⟨κ, cl, x, y⟩ := ⟨_, _, _, _, rfl⟩
      have hcn : cl < n := by have := HC.out _ (List.getElem_mem lx); rw [hcall] at this; exact this
      obtain ⟨b1, o1, rfl, c1⟩ := at_u8 H1.out hb (Nat.le_refl _) (k := k) (by simpa [kindsOf] using lx)
      obtain ⟨b2, o2, rfl, c2⟩ := at_int H2.out hb (Nat.le_refl _) (k := k) (by simpa [cellsOf] using lx)
      obtain ⟨b3, o3, rfl, c3⟩ := at_u64 H3.out hb (Nat.le_refl _) (k := k) (by simpa [asOf] using lx)
      obtain ⟨b4, o4, rfl, c4⟩ := at_u64 H4.out hb (Nat.le_refl _) (k := k) (by simpa [bsOf] using lx)
      simp only [kindsOf, cellsOf, asOf, bsOf, List.getElem_map, hcall] at c1 c2 c3 c4
      generalize hS : (runL st (sc.take k)).2 = S at *
      generalize hA : (runL st (sc.take k)).1 = A at *
      have hcl : cl < S.length := by rw [← hS, runL_snd_length, Hst.out]; exact hcn
      have HK := Lib.hid hcall; have HS := Lib.hid hS; have HA := Lib.hid hA
      obtain ⟨o, hO⟩ : ∃ o, S.getD cl 0 = o := ⟨_, rfl⟩
      have HO := Lib.hid hO
      obtain ⟨bl, rfl, hlc, hlf, hlB, hlz⟩ := ho.cellAt 0 rfl (j := cl) (by simpa using hcl)
      rw [U_get hcl, show S[cl] = o by rw [← hO]; simp [hcl]] at hlc
      clear hcall hS hA hO
      by_cases h1 : κ = 1#8
      · subst h1
        replace c1 : wr.cell? ⟨b1, o1 + k, none⟩ = some (.int .u8 1) := by simpa using c1
        obtain ⟨ho2, hb2⟩ := Owns.stored (p := []) ho rfl cl (.int .u64 (x.toNat : Int))
        have HO2 := Lib.hid ho2; have HB2 := Lib.hid hb2
        clear ho2 hb2 ho
        go_wp2_with ((at_builtin; refine app30s [_] [] (.tmp 112) (.tmp 114) rfl rfl wr.heap.size (by simp) rfl rfl HO2.out rfl (by omega) (by omega) ?_))
        intro a' c' w3 ho3 hb3 hz3
        have hT := (hb.trans HB2.out).trans hb3
        have hR := rel_step lx HS.out HA.out HK.out HO.out (by rw [Call.step1 _ _ rfl]) (by simpa [U_set] using ho3)
        clear ho3 hb3
        go_wp2
        go_roundw
        case rel => exact ⟨k + 1, a', c', by omega, by go_num, rfl, hR, hT⟩
        case measure => simp [intOf]; omega
      by_cases h3 : κ = 3#8
      · subst h3
        replace c1 : wr.cell? ⟨b1, o1 + k, none⟩ = some (.int .u8 3) := by simpa using c1
        obtain ⟨ho2, hb2⟩ := Owns.stored (p := []) ho rfl cl (.int .u64 (x.toNat : Int))
        have HO2 := Lib.hid ho2; have HB2 := Lib.hid hb2
        clear ho2 hb2 ho
        go_wp2_with ((at_builtin; refine app30s [_] [] (.tmp 112) (.tmp 114) rfl rfl wr.heap.size (by simp) rfl rfl HO2.out rfl (by omega) (by omega) ?_))
        intro a' c' w3 ho3 hb3 hz3
        have hT := (hb.trans HB2.out).trans hb3
        have hR := rel_step lx HS.out HA.out HK.out HO.out (by rw [Call.step3 _ _ rfl]) (by simpa [U_set] using ho3)
        clear ho3 hb3
        go_wp2
        go_roundw
        case rel => exact ⟨k + 1, a', c', by omega, by go_num, rfl, hR, hT⟩
        case measure => simp [intOf]; omega
      by_cases h2 : κ = 2#8
      · subst h2
        replace c1 : wr.cell? ⟨b1, o1 + k, none⟩ = some (.int .u8 2) := by simpa using c1
        have hop := run_add_u64 (P := Try.prog) o x wr
        obtain ⟨z, hz⟩ : ∃ z, o + x = z := ⟨_, rfl⟩
        rw [hz] at hop
        have HZ := Lib.hid hz
        clear hz
        obtain ⟨ho2, hb2⟩ := Owns.stored (p := []) ho rfl cl (.int .u64 (z.toNat : Int))
        have HO2 := Lib.hid ho2; have HB2 := Lib.hid hb2
        clear ho2 hb2 ho
        have hop2 : IntKind.u64.wrap ((o.toNat : Int) + (x.toNat : Int)) = (z.toNat : Int) := by rw [u64_add, HZ.out]
        clear hop
        have hlc2 : (wr.setCell ⟨bl, cl, none⟩ (.int .u64 (z.toNat : Int))).cell? ⟨bl, cl, none⟩ = some (.int .u64 (z.toNat : Int)) := World.cell?_setCell_same _ _ _ hlc
        go_wp2_with ((at_builtin; refine app30s [_] [] (.tmp 112) (.tmp 114) rfl rfl wr.heap.size (by simp) rfl rfl HO2.out rfl (by omega) (by omega) ?_))
        intro a' c' w3 ho3 hb3 hz3
        have hT := (hb.trans HB2.out).trans hb3
        have hR := rel_step lx HS.out HA.out HK.out HO.out (by rw [Call.step2 _ _ rfl, HZ.out]) (by simpa [U_set] using ho3)
        clear ho3 hb3
        go_wp2
        go_roundw
        case rel => exact ⟨k + 1, a', c', by omega, by go_num, rfl, hR, hT⟩
        case measure => simp [intOf]; omega
      by_cases h5 : κ = 5#8
      · subst h5
        replace c1 : wr.cell? ⟨b1, o1 + k, none⟩ = some (.int .u8 5) := by simpa using c1
        have hop := run_and_u64 (P := Try.prog) o x wr
        obtain ⟨z, hz⟩ : ∃ z, o &&& x = z := ⟨_, rfl⟩
        rw [hz] at hop
        have HZ := Lib.hid hz
        clear hz
        obtain ⟨ho2, hb2⟩ := Owns.stored (p := []) ho rfl cl (.int .u64 (z.toNat : Int))
        have HO2 := Lib.hid ho2; have HB2 := Lib.hid hb2
        clear ho2 hb2 ho
        have hop2 : bits .and .u64 (o.toNat : Int) (x.toNat : Int) = (z.toNat : Int) := by rw [bits_and, HZ.out]
        clear hop
        go_wp2_with ((at_builtin; refine app30s [_] [] (.tmp 112) (.tmp 114) rfl rfl wr.heap.size (by simp) rfl rfl HO2.out rfl (by omega) (by omega) ?_))
        intro a' c' w3 ho3 hb3 hz3
        have hT := (hb.trans HB2.out).trans hb3
        have hR := rel_step lx HS.out HA.out HK.out HO.out (by rw [Call.step5 _ _ rfl, HZ.out]) (by simpa [U_set] using ho3)
        clear ho3 hb3
        go_wp2
        go_roundw
        case rel => exact ⟨k + 1, a', c', by omega, by go_num, rfl, hR, hT⟩
        case measure => simp [intOf]; omega
      by_cases h6 : κ = 6#8
      · subst h6
        replace c1 : wr.cell? ⟨b1, o1 + k, none⟩ = some (.int .u8 6) := by simpa using c1
        have hop := run_or_u64 (P := Try.prog) o x wr
        obtain ⟨z, hz⟩ : ∃ z, o ||| x = z := ⟨_, rfl⟩
        rw [hz] at hop
        have HZ := Lib.hid hz
        clear hz
        obtain ⟨ho2, hb2⟩ := Owns.stored (p := []) ho rfl cl (.int .u64 (z.toNat : Int))
        have HO2 := Lib.hid ho2; have HB2 := Lib.hid hb2
        clear ho2 hb2 ho
        have hop2 : bits .or .u64 (o.toNat : Int) (x.toNat : Int) = (z.toNat : Int) := by rw [bits_or, HZ.out]
        clear hop
        go_wp2_with ((at_builtin; refine app30s [_] [] (.tmp 112) (.tmp 114) rfl rfl wr.heap.size (by simp) rfl rfl HO2.out rfl (by omega) (by omega) ?_))
        intro a' c' w3 ho3 hb3 hz3
        have hT := (hb.trans HB2.out).trans hb3
        have hR := rel_step lx HS.out HA.out HK.out HO.out (by rw [Call.step6 _ _ rfl, HZ.out]) (by simpa [U_set] using ho3)
        clear ho3 hb3
        go_wp2
        go_roundw
        case rel => exact ⟨k + 1, a', c', by omega, by go_num, rfl, hR, hT⟩
        case measure => simp [intOf]; omega
      by_cases h0 : κ = 0#8
      · subst h0
        replace c1 : wr.cell? ⟨b1, o1 + k, none⟩ = some (.int .u8 0) := by simpa using c1
        go_wp2_with ((at_builtin; refine app30s [_] [] (.tmp 112) (.tmp 114) rfl rfl wr.heap.size rfl rfl rfl ho rfl (by omega) (by omega) ?_))
        intro a' c' w3 ho3 hb3 hz3
        have hT := hb.trans hb3
        have hss := set_same (st := S) (j := cl)
        rw [HO.out] at hss
        rw [← hss] at ho3
        have hR := rel_step lx HS.out HA.out HK.out HO.out (Call.step0 _ _ rfl) (by simpa using ho3)
        clear ho3 hb3
        go_wp2
        go_roundw
        case rel => exact ⟨k + 1, a', c', by omega, by go_num, rfl, hR, hT⟩
        case measure => simp [intOf]; omega
      by_cases h4 : κ = 4#8
      · subst h4
        replace c1 : wr.cell? ⟨b1, o1 + k, none⟩ = some (.int .u8 4) := by simpa using c1
        by_cases hq : o = x
        · obtain rfl := hq
          have tq : ((o.toNat : Int) == (o.toNat : Int)) = true := by simp
          obtain ⟨ho2, hb2⟩ := Owns.stored (p := []) ho rfl cl (.int .u64 (y.toNat : Int))
          have HO2 := Lib.hid ho2; have HB2 := Lib.hid hb2
          clear ho2 hb2 ho
          go_wp2_with ((at_builtin; refine app30s [_] [] (.tmp 112) (.tmp 114) rfl rfl wr.heap.size (by simp) rfl rfl HO2.out rfl (by omega) (by omega) ?_))
          intro a' c' w3 ho3 hb3 hz3
          have hT := (hb.trans HB2.out).trans hb3
          have hR := rel_step lx HS.out HA.out HK.out HO.out (by rw [Call.step4 _ _ rfl, if_pos rfl]) (by simpa [U_set] using ho3)
          clear ho3 hb3
          go_wp2
          go_roundw
          case rel => exact ⟨k + 1, a', c', by omega, by go_num, rfl, hR, hT⟩
          case measure => simp [intOf]; omega
        · have tq : ((o.toNat : Int) == (x.toNat : Int)) = false := by rw [beq_eq_false_iff_ne]; intro h; exact hq (BitVec.eq_of_toNat_eq (by omega))
          have HQ := Lib.hid hq
          clear hq
          go_wp2_with ((at_builtin; refine app30s [_] [] (.tmp 112) (.tmp 114) rfl rfl wr.heap.size rfl rfl rfl ho rfl (by omega) (by omega) ?_))
          intro a' c' w3 ho3 hb3 hz3
          have hT := hb.trans hb3
          have hss := set_same (st := S) (j := cl)
          rw [HO.out] at hss
          rw [← hss] at ho3
          have hR := rel_step lx HS.out HA.out HK.out HO.out (by rw [Call.step4 _ _ rfl, if_neg HQ.out]) (by simpa using ho3)
          clear ho3 hb3
          go_wp2
          go_roundw
          case rel => exact ⟨k + 1, a', c', by omega, by go_num, rfl, hR, hT⟩
          case measure => simp [intOf]; omega
      have t0 : ((κ.toNat : Int) == 0) = false := by rw [beq_eq_false_iff_ne]; intro h; exact h0 (BitVec.eq_of_toNat_eq (by simp; omega))
      have t1 : ((κ.toNat : Int) == 1) = false := by rw [beq_eq_false_iff_ne]; intro h; exact h1 (BitVec.eq_of_toNat_eq (by simp; omega))
      have t2 : ((κ.toNat : Int) == 2) = false := by rw [beq_eq_false_iff_ne]; intro h; exact h2 (BitVec.eq_of_toNat_eq (by simp; omega))
      have t3 : ((κ.toNat : Int) == 3) = false := by rw [beq_eq_false_iff_ne]; intro h; exact h3 (BitVec.eq_of_toNat_eq (by simp; omega))
      have t4 : ((κ.toNat : Int) == 4) = false := by rw [beq_eq_false_iff_ne]; intro h; exact h4 (BitVec.eq_of_toNat_eq (by simp; omega))
      have t5 : ((κ.toNat : Int) == 5) = false := by rw [beq_eq_false_iff_ne]; intro h; exact h5 (BitVec.eq_of_toNat_eq (by simp; omega))
      have t6 : ((κ.toNat : Int) == 6) = false := by rw [beq_eq_false_iff_ne]; intro h; exact h6 (BitVec.eq_of_toNat_eq (by simp; omega))
      have HD := Lib.hid (And.intro h0 (And.intro h1 (And.intro h2 (And.intro h3 (And.intro h4 (And.intro h5 h6))))))
      clear h0 h1 h2 h3 h4 h5 h6
      go_wp2_with ((at_builtin; refine app30s [_] [] (.tmp 112) (.tmp 114) rfl rfl wr.heap.size rfl rfl rfl ho rfl (by omega) (by omega) ?_))
      intro a' c' w3 ho3 hb3 hz3
      have hT := hb.trans hb3
      have hss := set_same (st := S) (j := cl)
      rw [HO.out] at hss
      rw [← hss] at ho3
      have hR := rel_step lx HS.out HA.out HK.out HO.out (Call.step7 _ _ HD.out.1 HD.out.2.1 HD.out.2.2.1 HD.out.2.2.2.1 HD.out.2.2.2.2.1 HD.out.2.2.2.2.2.1 HD.out.2.2.2.2.2.2) (by simpa using ho3)
      clear ho3 hb3
      go_wp2
      go_roundw
      case rel => exact ⟨k + 1, a', c', by omega, by go_num, rfl, hR, hT⟩
      case measure => simp [intOf]; omega
    · rw [List.take_of_length_le (by rw [Hsc.out]; omega)] at ho
      obtain rfl : k = m := by omega
      have HR := Lib.hid (ho.perm (List.Perm.swap _ _ _))
      have HB := Lib.hid hb
      clear ho hb
      go_wp2
      go_ret2
      exact ⟨_, _, _, _, rfl, HR.out, HB.out⟩
end Go.Proofs.Ytjjmjjbeecmmlaa
