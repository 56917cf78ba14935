/-
  The contract of impl.OnceAdds.
-/
import Derived.Test.YtjjmjjbeecmmlaeFuncSet
import Derived.Test.YtjjmjjbeecmmlaeOFns
import Derived.Test.YtjjmjjbeecmmlaeKin
import Derived.StillTailTactics
import Derived.Test.YtjjmjjbeecmmlaeStep
namespace Go.Proofs.Ytjjmjjbeecmmlae
set_option linter.unusedVariables false
set_option linter.unusedSimpArgs false
open Go.RowKit

/-- The rows that the actions share: the cells' variable; the words, and their variable; each one's index and number. -/
def addsA (vK : Nat) (sl : Value) (bW vW nw : Nat) (t : List (BitVec 64)) : List Row :=
  [⟨25, some ⟨vK, 0, none⟩, 1, 1, [sl]⟩, ⟨46, some ⟨bW, 0, none⟩, nw, nw, U t⟩, ⟨56, some ⟨vW, 0, none⟩, 1, 1, [.slice (some ⟨bW, 0, none⟩) nw nw]⟩]
def addsH (vK : Nat) (sl : Value) (bW vW nw : Nat) (iv mv : List Nat) (nums : List (BitVec 64)) (t : List (BitVec 64)) : List Row :=
  addsA vK sl bW vW nw t ++ (vars 3 iv (fun i => .int .i64 (i : Int)) ++ vars 24 mv (fun i => .int .u64 ((nums.getD i 0).toNat : Int)))
def addsCap (vW vK : Nat) (iv mv : List Nat) (i : Nat) : Array Value := #[ptr vW, ptr vK, ptr (iv.getD i 0), ptr (mv.getD i 0)]
def addsAct (cells : List Nat) (nums : List (BitVec 64)) (i : Nat) (t : List (BitVec 64)) : Unit × List (BitVec 64) := ((), t.set (cells.getD i 0) (t.getD (cells.getD i 0) 0 + nums.getD i 0))

theorem adds_inv (vW vK : Nat) (iv mv : List Nat) (i : Nat) (w : World) : (callFunc 26 (addsCap vW vK iv mv i)).run Try.prog w = .ok (.enter 26 (addsCap vW vK iv mv i)) w := by simp [go_sem, addsCap]

set_option maxHeartbeats 1600000 in
theorem adds_leaf (w : World) (B vK bW vW nw n cn : Nat) (an : Option Addr) (iv mv cells : List Nat) (nums : List (BitVec 64)) (t : List (BitVec 64)) (i : Nat) (Y : List Row) (hi : i < iv.length) (hmi : i < mv.length) (hic : i < cells.length) (hcl : cells.length = n) (hbn : n ≤ 1048576) (hbw : nw ≤ 1048576) (htl : t.length = nw) (hcw : cells.getD i 0 < nw) (hrn : Rd w an (NI cells))
    (ho : Owns w B (addsH vK (.slice an n cn) bW vW nw iv mv nums t ++ Y)) :
    Calls Try.prog 26 (addsCap vW vK iv mv i) w (ActedF B w (addsH vK (.slice an n cn) bW vW nw iv mv nums (addsAct cells nums i t).2) Y) := by
  have q3 := (ho.cellOf (j := 0) (List.mem_append_left Y (List.mem_append_right _ (List.mem_append_right _ (vars_mem (T := 24) (f := fun i => .int .u64 ((nums.getD i 0).toNat : Int)) hmi)))) rfl).1
  have q2 := (ho.cellOf (j := 0) (List.mem_append_left Y (List.mem_append_right _ (List.mem_append_left _ (vars_mem (T := 3) (f := fun i => .int .i64 (i : Int)) hi)))) rfl).1
  have q1 := (ho.var 0 rfl).1
  have q0 := (ho.var 2 rfl).1
  obtain ⟨bn, on, rfl, qn⟩ := at_int hrn (Below.refl _ _) (Nat.le_refl _) hic
  have hlt : i < n := by rw [← hcl]; exact hic
  obtain ⟨c, hc⟩ : ∃ c, cells[i] = c := ⟨_, rfl⟩
  have hcg : cells.getD i 0 = c := by rw [← hc]; simp [hic]
  rw [hcg] at hcw
  obtain ⟨y, hy⟩ : ∃ y, nums.getD i 0 = y := ⟨_, rfl⟩
  have HA := Lib.hid (add_own (p := [⟨25, some ⟨vK, 0, none⟩, 1, 1, [.slice (some ⟨bn, on, none⟩) n cn]⟩]) (j := c) (b := bW) (E := 46) (n := nw) (c := nw) (st := t) (q := ⟨56, some ⟨vW, 0, none⟩, 1, 1, [.slice (some ⟨bW, 0, none⟩) nw nw]⟩ :: ((vars 3 iv (fun i => .int .i64 (i : Int)) ++ vars 24 mv (fun i => .int .u64 ((nums.getD i 0).toNat : Int))) ++ Y)) (by have h1 := ho.drew; simpa [addsH, addsA] using h1) (by rw [htl]; exact hcw) y _ _ rfl rfl)
  have HE : Hid ((addsAct cells nums i t).2 = t.set c (t.getD c 0 + y)) := by show _ = _; simp only [addsAct, hcg, hy]
  rw [HE.out]
  obtain ⟨bi, hbi⟩ : ∃ b, iv.getD i 0 = b := ⟨_, rfl⟩
  obtain ⟨bm, hbm⟩ : ∃ b, mv.getD i 0 = b := ⟨_, rfl⟩
  unfold addsCap
  simp only [hy] at q3
  rw [hc] at qn
  rw [hbi] at q2 ⊢
  rw [hbm] at q3 ⊢
  obtain ⟨z, hz⟩ : ∃ z, t.getD c 0 + y = z := ⟨_, rfl⟩
  rw [hz] at HA ⊢
  clear ho hy hbi hbm hz hc hcg hrn HE htl
  go_enter Try.func26, Try.ntmps26
  go_wp2
  go_still_tail 7, (by kernel_rfl)
  go_wp2_with fail
  refine HA.out.mono ?_
  rintro e w' ⟨rfl, ho', hb'⟩
  have HO := Lib.hid ho'; have HB := Lib.hid hb'
  clear ho' hb' HA q0 q1 q2 q3 qn
  go_wp2
  go_end0
  exact ⟨rfl, by have h1 := HO.out; simpa [addsH, addsA] using h1, (Below.refl B w).drew.trans HB.out⟩

theorem fill_step {st : List (BitVec 64)} {k n : Nat} (hst : st.length = n) (hk : k < st.length) : (st.take k ++ List.replicate (n - k) 0).set k st[k] = st.take (k + 1) ++ List.replicate (n - (k + 1)) 0 := by
  subst hst
  rw [List.set_append_right _ _ (by simp; omega), List.take_succ_eq_append_getElem hk, List.append_assoc]
  congr 1
  rw [show st.length - k = (st.length - (k + 1)) + 1 by omega, List.replicate_succ]
  simp [Nat.min_eq_left (Nat.le_of_lt hk)]
theorem fill_end {st : List (BitVec 64)} {k n : Nat} (hst : st.length = n) (hk : ¬ k < n) : st.take k ++ List.replicate (n - k) 0 = st := by
  rw [show n - k = 0 by omega, List.take_of_length_le (by omega)]
  simp

/-- What OnceAdds leaves. -/
def Added (w : World) (m nw : Nat) (seen last : List (BitVec 64)) (e : Ending) (w' : World) : Prop :=
  ∃ ra rc fa fc, e = .returned (.tuple #[.slice ra m rc, .slice fa nw fc]) ∧ Owns w' w.heap.size [⟨24, ra, m, rc, U seen⟩, ⟨24, fa, nw, fc, U last⟩] ∧ Below w.heap.size w w'

set_option maxRecDepth 100000 in
set_option maxHeartbeats 6400000 in
theorem onceAdds_any (w : World) (a0 a1 a2 a3 : Option Addr) (nw n c0 c1 c2 m c3 : Nat) (start nums : List (BitVec 64)) (cells calls : List Nat) (hls : start.length = nw) (hrs : Rd w a0 (U start)) (hlk : cells.length = n) (hrk : Rd w a1 (NI cells)) (hkw : ∀ c ∈ cells, c < nw) (hlo : nums.length = n) (hro : Rd w a2 (U nums)) (hn : n ≤ 1048576) (hnw : nw ≤ 1048576) (hlc : calls.length = m) (hm : m ≤ 1048576) (hrc : Rd w a3 (NI calls)) (hcn : ∀ i ∈ calls, i < n)
    (T : Nat → List Nat × List Unit × List (BitVec 64)) (hT : onceAt (addsAct cells nums) n () start calls = T) (seen last : List (BitVec 64)) (hsl : seen.length = m) (hseen : ∀ j i (h : j < seen.length) (h' : j < calls.length), calls[j] = i → seen[j] = (T (j + 1)).2.2.getD (cells.getD i 0) 0) (hlast : (T m).2.2 = last) :
    Calls Try.prog 15 #[.slice a0 nw c0, .slice a1 n c1, .slice a2 n c2, .slice a3 m c3] w (Added w m nw seen last) := by
  obtain ⟨i0, hi, hzz0, hzz1, hzz2⟩ := info_parts info61
  have HT0 : Hid (T 0 = ([], List.replicate n (), start)) := by show _ = _; rw [← hT]; rfl
  have HTS : Hid (∀ j i (h : j < calls.length), calls[j] = i → T (j + 1) = onceStep (addsAct cells nums) (T j) i) := by refine Lib.hid fun j i h hi => ?_; rw [← hT]; exact onceAt_succ h hi
  have HTW : Hid (∀ j, j ≤ m → (T j).2.2.length = nw) := by
    refine Lib.hid fun j => ?_
    induction j with
    | zero => intro _; rw [HT0.out]; exact hls
    | succ j ih =>
      intro hj
      rw [HTS.out j _ (by omega) rfl]
      have h1 := ih (by omega)
      generalize T j = t at h1
      by_cases hm : calls[j] ∈ t.1
      · rw [onceStep_old hm]; exact h1
      · rw [onceStep_new hm]; simp [addsAct, h1]
  have HSL := Lib.hid hsl; have HSG := Lib.hid hseen; have HLA := Lib.hid hlast
  have HLS := Lib.hid hls; have HRS := Lib.hid hrs; have HLK := Lib.hid hlk; have HRK := Lib.hid hrk; have HKW := Lib.hid hkw
  have HLO := Lib.hid hlo; have HRO := Lib.hid hro; have HLC := Lib.hid hlc; have HRC := Lib.hid hrc; have HCN := Lib.hid hcn
  clear hlo hro hlc hrc hcn hT hsl hseen hlast hls hrs hlk hrk hkw
  have hmf : ∀ (fn : Fn) (first cap : Array Value) (w : World), (Instr.makeFunc fn first cap).run Try.prog w = .ok (.func fn first cap) w := fun _ _ _ _ => rfl
  have O0 := Lib.hid ((Owns.nil w w.heap.size).made (Nat.le_refl _) 25 #[(.slice a1 n c1)] (by simp [maxLen]))
  have B0 := Lib.hid ((Below.refl w.heap.size w).alloc (Nat.le_refl _) (.cells #[(.slice a1 n c1)] 25))
  go_enter Try.func15, Try.ntmps15
  go_wp2_with (at_make; refine wpList_make_full _ rfl _ _ 56 rfl (w.heap.size + 1) 46 i0 (.agg #[.int .u64 0]) 1 Try.underlying56 hi hzz0 hzz1 .i64 .i64 _ _ nw rfl rfl rfl rfl (by rw [hzz2]; omega) (by simp only [maxLen]; omega) (by simp) ?_)
  intro w1 ho1 hg1
  rw [made_u64] at ho1
  obtain ⟨hoA, hbA⟩ := O0.out.makes (b := w.heap.size + 1) (by simp) (by simp) ho1 hg1
  have hs1 : w.heap.size + 1 ≤ w1.heap.size := by have := hbA.size; simpa using this
  have O2 := Lib.hid (hoA.made (by omega) 56 #[.slice (some ⟨w.heap.size + 1, 0, none⟩) nw nw] (by simp [maxLen]))
  have B2 := Lib.hid ((B0.out.trans (hbA.mono (by simp))).alloc (by omega) (.cells #[.slice (some ⟨w.heap.size + 1, 0, none⟩) nw nw] 56))
  clear ho1 hg1 hoA hbA O0 B0 hi hzz0 hzz1 hzz2
  go_wp2
  go_loopw [26] (fun i wr => ∃ k : Nat, k ≤ nw ∧ i = .int .i64 k ∧ Owns wr w.heap.size (addsA w.heap.size (.slice a1 n c1) (w.heap.size + 1) w1.heap.size nw (start.take k ++ List.replicate (nw - k) 0)) ∧ Below w.heap.size w wr) (fun i _ => nw - (intOf i).toNat)
  case atStart => exact ⟨0, Nat.zero_le _, rfl, by have h1 := O2.out; simpa [addsA] using h1, B2.out⟩
  case round =>
   clear O2 B2 hs1
   obtain ⟨k, hk, rfl, ho, hb⟩ := hrel
   have hsz := hb.size
   by_cases hlt : k < nw
   · have lk : k < start.length := by rw [HLS.out]; exact hlt
     obtain ⟨ba, oa, rfl, qa⟩ := at_u64 HRS.out hb (Nat.le_refl _) lk
     have q0 := (ho.var 2 rfl).1
     have HST := Lib.hid (store_own (p := [_]) (b := w.heap.size + 1) (E := 46) (n := nw) (c := nw) (j := k) (st := start.take k ++ List.replicate (nw - k) 0) (q := [_]) ho (by simp; omega) start[k])
     have HFS := Lib.hid (fill_step HLS.out lk)
     obtain ⟨x, hx⟩ : ∃ x, start[k] = x := ⟨_, rfl⟩
     rw [hx] at qa HST HFS
     have HB := Lib.hid hb
     clear ho hb hx
     go_wp2_with fail
     refine HST.out.mono ?_
     rintro e w2 ⟨rfl, ho2, hb2⟩
     rw [HFS.out] at ho2
     have HR := Lib.hid ho2; have HT := Lib.hid (HB.out.trans hb2)
     clear ho2 hb2 HST q0 qa
     go_wp2
     go_roundw
     case rel => exact ⟨k + 1, by omega, by go_num, HR.out, HT.out⟩
     case measure => simp [intOf] <;> omega
   · rw [fill_end HLS.out hlt] at ho
     have O3 := Lib.hid (ho.made hsz 1 #[] (by simp))
     have B3 := Lib.hid (hb.alloc hsz (.cells #[] 1))
     clear ho hb hsz
     go_wp2
     go_loopw [40, 13] (fun i v wr => ∃ (k : Nat) (e0 : Option Addr) (g0 : Nat) (iv ov db : List Nat), k ≤ n ∧ i = .int .i64 k ∧ v = .slice e0 k g0 ∧ iv.length = k ∧ ov.length = k ∧ db.length = k ∧ Owns wr w.heap.size (addsA w.heap.size (.slice a1 n c1) (w.heap.size + 1) w1.heap.size nw start ++ (vars 3 iv (fun i => .int .i64 (i : Int)) ++ (vars 24 ov (fun i => .int .u64 ((nums.getD i 0).toNat : Int)) ++ (recsF db (fun i => FreshF (.func (.func 26) #[] (addsCap w1.heap.size w.heap.size iv ov i)) 0) ++ [⟨1, e0, k, g0, (db).map closF⟩])))) ∧ Below w.heap.size w wr) (fun i _ _ => n - (intOf i).toNat)
     case atStart => exact ⟨0, _, _, [], [], [], Nat.zero_le _, rfl, rfl, rfl, rfl, rfl, by have h1 := O3.out; simpa [vars, recsF, addsA] using h1, B3.out⟩
     case round =>
       clear O3 B3
       obtain ⟨k, e0, g0, iv, ov, db, hk, rfl, rfl, hli, hlo, hld, ho, hb⟩ := hrel
       have hsz := hb.size
       by_cases hlt : k < n
       · have lk : k < nums.length := by rw [HLO.out]; exact hlt
         obtain ⟨ba, oa, rfl, qa⟩ := at_u64 HRO.out hb (Nat.le_refl _) lk
         obtain ⟨x, hx⟩ : ∃ x, nums[k] = x := ⟨_, rfl⟩
         have hxg : nums.getD k 0 = x := by rw [← hx]; simp [lk]
         rw [hx] at qa
         have O1 := ((ho.made hsz 3 #[.int .i64 (k : Int)] (by simp [maxLen])).made (by simp; omega) 24 #[.int .u64 (x.toNat : Int)] (by simp [maxLen])).made (by simp; omega) 67 (FreshF (.func (.func 26) #[] #[ptr w1.heap.size, ptr w.heap.size, ptr wr.heap.size, ptr (wr.heap.size + 1)]) 0).toArray (by simp [maxLen, FreshF])
         have B1 := Lib.hid (((hb.alloc hsz (.cells #[.int .i64 (k : Int)] 3)).alloc (by simp; omega) (.cells #[.int .u64 (x.toNat : Int)] 24)).alloc (by simp; omega) (.cells (FreshF (.func (.func 26) #[] #[ptr w1.heap.size, ptr w.heap.size, ptr wr.heap.size, ptr (wr.heap.size + 1)]) 0).toArray 67))
         have HO1 : Hid (Owns (((wr.alloc (.cells #[.int .i64 (k : Int)] 3)).alloc (.cells #[.int .u64 (x.toNat : Int)] 24)).alloc (.cells (FreshF (.func (.func 26) #[] #[ptr w1.heap.size, ptr w.heap.size, ptr wr.heap.size, ptr (wr.heap.size + 1)]) 0).toArray 67)) w.heap.size
             ((addsA w.heap.size (.slice a1 n c1) (w.heap.size + 1) w1.heap.size nw start ++ (vars 3 iv (fun i => .int .i64 (i : Int)) ++ (vars 24 ov (fun i => .int .u64 ((nums.getD i 0).toNat : Int)) ++ recsF db (fun i => FreshF (.func (.func 26) #[] (addsCap w1.heap.size w.heap.size iv ov i)) 0)))) ++ ⟨1, e0, k, g0, (db).map closF⟩ :: [⟨3, some ⟨wr.heap.size, 0, none⟩, 1, 1, [.int .i64 (k : Int)]⟩, ⟨24, some ⟨wr.heap.size + 1, 0, none⟩, 1, 1, [.int .u64 (x.toNat : Int)]⟩, ⟨67, some ⟨wr.heap.size + 1 + 1, 0, none⟩, 6, 6, FreshF (.func (.func 26) #[] #[ptr w1.heap.size, ptr w.heap.size, ptr wr.heap.size, ptr (wr.heap.size + 1)]) 0⟩])) := by
           refine Lib.hid ?_
           simpa [FreshF] using O1
         have HXG := Lib.hid hxg; have HLI := Lib.hid hli; have HLV := Lib.hid hlo; have HLD := Lib.hid hld
         clear ho hb O1 hx hxg hli hlo hld
         go_wp2_with fail
         refine (make_anyF _ _ _).mono ?_
         rintro e w3 ⟨rfl, rfl⟩
         go_wp2_with (at_builtin; refine appFFs _ _ (.tmp 45) (.tmp 48) rfl rfl (wr.heap.size + 1 + 1 + 1) (by simp) rfl rfl HO1.out rfl (by omega) (by omega) ?_)
         intro e1 g1 w4 ho4 hb4 hs4
         have HR : Hid (Owns w4 w.heap.size (addsA w.heap.size (.slice a1 n c1) (w.heap.size + 1) w1.heap.size nw start ++ (vars 3 (iv ++ [wr.heap.size]) (fun i => .int .i64 (i : Int)) ++ (vars 24 (ov ++ [wr.heap.size + 1]) (fun i => .int .u64 ((nums.getD i 0).toNat : Int)) ++ (recsF (db ++ [wr.heap.size + 1 + 1]) (fun i => FreshF (.func (.func 26) #[] (addsCap w1.heap.size w.heap.size (iv ++ [wr.heap.size]) (ov ++ [wr.heap.size + 1]) i)) 0) ++ [⟨1, e1, k + 1, g1, (db ++ [wr.heap.size + 1 + 1]).map closF⟩]))))) := by
           refine Lib.hid ?_
           rw [vars_snoc HLI.out, vars_snoc HLV.out, recs_snocF HLD.out]
           have eR : recsF db (fun i => FreshF (.func (.func 26) #[] (addsCap w1.heap.size w.heap.size (iv ++ [wr.heap.size]) (ov ++ [wr.heap.size + 1]) i)) 0) = recsF db (fun i => FreshF (.func (.func 26) #[] (addsCap w1.heap.size w.heap.size iv ov i)) 0) := by
             unfold recsF
             apply List.ext_getElem
             · simp
             · intro i h1 h2
               simp only [List.length_mapIdx] at h1
               have hiv : i < iv.length := by rw [HLI.out, ← HLD.out]; exact h1
               have hov : i < ov.length := by rw [HLV.out, ← HLD.out]; exact h1
               simp [addsCap, List.getElem?_append_left hiv, List.getElem?_append_left hov]
           have eK : addsCap w1.heap.size w.heap.size (iv ++ [wr.heap.size]) (ov ++ [wr.heap.size + 1]) k = #[ptr w1.heap.size, ptr w.heap.size, ptr wr.heap.size, ptr (wr.heap.size + 1)] := by
             have h1 := HLI.out
             have h2 := HLV.out
             unfold addsCap
             rw [show (iv ++ [wr.heap.size]).getD k 0 = wr.heap.size by rw [← h1]; simp, show (ov ++ [wr.heap.size + 1]).getD k 0 = wr.heap.size + 1 by rw [← h2]; simp]
           rw [eR, eK, HXG.out, List.map_append]
           refine rows_kin2 ?_
           have h1 := ho4
           simp only [List.append_assoc, List.cons_append, List.nil_append] at h1 ⊢
           exact h1
         have HT := Lib.hid (B1.out.trans hb4)
         clear ho4 hb4 HO1 B1
         go_wp2
         go_roundw
         case rel => exact ⟨k + 1, e1, g1, iv ++ [wr.heap.size], ov ++ [wr.heap.size + 1], db ++ [wr.heap.size + 1 + 1], by omega, by go_num, rfl, by simp [HLI.out], by simp [HLV.out], by simp [HLD.out], HR.out, HT.out⟩
         case measure => simp [intOf] <;> omega
       · have hkn : n = k := by omega
         subst hkn
         have HLI := Lib.hid hli; have HLV := Lib.hid hlo; have HLD := Lib.hid hld
         have ho0 : Owns wr w.heap.size (addsH w.heap.size (.slice a1 n c1) (w.heap.size + 1) w1.heap.size nw iv ov nums (T 0).2.2 ++ (recsF db (statOfF 26 (addsCap w1.heap.size w.heap.size iv ov) (T 0).1) ++ [⟨1, e0, n, g0, (db).map closF⟩])) := by
           rw [HT0.out]
           have e : statOfF 26 (addsCap w1.heap.size w.heap.size iv ov) [] = (fun i => FreshF (.func (.func 26) #[] (addsCap w1.heap.size w.heap.size iv ov i)) 0) := by funext i; unfold statOfF; rw [if_neg (by simp)]
           simp only [e]
           have h1 := ho
           unfold addsH
           simp only [List.append_assoc, List.cons_append, List.nil_append] at h1 ⊢
           exact h1
         have O3 := Lib.hid ((ho0.made hsz 24 #[] (by simp)).made (by simp; omega) 24 #[] (by simp))
         have B3 := Lib.hid ((hb.alloc hsz (.cells #[] 24)).alloc (by simp; omega) (.cells #[] 24))
         obtain ⟨bL, hbL⟩ : ∃ b, wr.heap.size + 1 = b := ⟨_, rfl⟩
         simp only [World.size_alloc, hbL] at O3
         clear ho ho0 hb hli hlo hld hsz
         go_wp2
         go_loopw [55, 16] (fun i v wr => ∃ (j : Nat) (e2 : Option Addr) (g2 : Nat), j ≤ m ∧ i = .int .i64 j ∧ v = .slice e2 j g2 ∧ Owns wr w.heap.size (addsH w.heap.size (.slice a1 n c1) (w.heap.size + 1) w1.heap.size nw iv ov nums (T j).2.2 ++ (recsF db (statOfF 26 (addsCap w1.heap.size w.heap.size iv ov) (T j).1) ++ [⟨1, e0, n, g0, (db).map closF⟩, ⟨24, e2, j, g2, U (seen.take j)⟩, ⟨24, some ⟨bL, 0, none⟩, 0, 0, []⟩])) ∧ Below w.heap.size w wr) (fun i _ _ => m - (intOf i).toNat)
         case atStart => exact ⟨0, _, _, Nat.zero_le _, rfl, rfl, by simpa using O3.out, B3.out⟩
         case round =>
           clear O3 B3
           obtain ⟨j, e2, g2, hj, rfl, rfl, ho, hb⟩ := hrel
           have hsz := hb.size
           by_cases hlj : j < m
           · have lj : j < calls.length := by rw [HLC.out]; exact hlj
             have lo : j < seen.length := by rw [HSL.out]; exact hlj
             obtain ⟨i, hij⟩ : ∃ i, calls[j] = i := ⟨_, rfl⟩
             have hin : i < n := by rw [← hij]; exact HCN.out _ (List.getElem_mem lj)
             obtain ⟨b2, o2, rfl, q2⟩ := at_int HRC.out hb (Nat.le_refl _) (k := j) lj
             rw [hij] at q2
             have ldb : i < db.length := by rw [HLD.out]; exact hin
             have lic : i < cells.length := by rw [HLK.out]; exact hin
             obtain ⟨c, hcc⟩ : ∃ c, cells[i] = c := ⟨_, rfl⟩
             have hcg : cells.getD i 0 = c := by rw [← hcc]; simp [lic]
             have hcw' : c < nw := by rw [← hcc]; exact HKW.out _ (List.getElem_mem lic)
             have hcw : cells.getD i 0 < nw := by rw [hcg]; exact hcw'
             obtain ⟨be, hbe⟩ : ∃ b, e0 = some ⟨b, 0, none⟩ := by
               obtain ⟨ii, hii⟩ := List.getElem?_of_mem (show (⟨1, e0, n, g0, (db).map closF⟩ : Row) ∈ (addsH w.heap.size (.slice a1 n c1) (w.heap.size + 1) w1.heap.size nw iv ov nums (T j).2.2 ++ (recsF db (statOfF 26 (addsCap w1.heap.size w.heap.size iv ov) (T j).1) ++ [⟨1, e0, n, g0, (db).map closF⟩, ⟨24, e2, j, g2, U (seen.take j)⟩, ⟨24, some ⟨bL, 0, none⟩, 0, 0, []⟩])) by simp)
               exact ho.addr ii hii (k := i) (by simpa using ldb)
             subst hbe
             have qF : wr.cell? ⟨be, i, none⟩ = some (closF (db.getD i 0)) := (ho.cellOf (show (⟨1, some ⟨be, 0, none⟩, n, g0, (db).map closF⟩ : Row) ∈ (addsH w.heap.size (.slice a1 n c1) (w.heap.size + 1) w1.heap.size nw iv ov nums (T j).2.2 ++ (recsF db (statOfF 26 (addsCap w1.heap.size w.heap.size iv ov) (T j).1) ++ [⟨1, some ⟨be, 0, none⟩, n, g0, (db).map closF⟩, ⟨24, e2, j, g2, U (seen.take j)⟩, ⟨24, some ⟨bL, 0, none⟩, 0, 0, []⟩])) by simp) (j := i) (by simp [ldb])).1
             have HST := Lib.hid (HTS.out j i lj hij)
             have HC := Lib.hid (once_callF db 26 (addsCap w1.heap.size w.heap.size iv ov) w.heap.size wr (addsH w.heap.size (.slice a1 n c1) (w.heap.size + 1) w1.heap.size nw iv ov nums (T j).2.2) (addsH w.heap.size (.slice a1 n c1) (w.heap.size + 1) w1.heap.size nw iv ov nums (T (j + 1)).2.2) [⟨1, some ⟨be, 0, none⟩, n, g0, (db).map closF⟩, ⟨24, e2, j, g2, U (seen.take j)⟩, ⟨24, some ⟨bL, 0, none⟩, 0, 0, []⟩] i (T j).1 ldb
               (adds_inv w1.heap.size w.heap.size iv ov i) ho
               (by
                 intro hni w5 Y hoY hbY
                 have e1 := HST.out
                 rw [onceStep_new hni] at e1
                 have e2 : (T (j + 1)).2.2 = (addsAct cells nums i (T j).2.2).2 := by rw [e1]
                 rw [e2]
                 exact adds_leaf w5 w.heap.size w.heap.size (w.heap.size + 1) w1.heap.size nw n c1 a1 iv ov cells nums (T j).2.2 i Y (by rw [HLI.out]; exact hin) (by rw [HLV.out]; exact hin) lic HLK.out hn hnw (HTW.out j (by omega)) hcw (HRK.out.mono (hb.trans hbY) (Nat.le_refl _)) hoY)
               (by
                 intro hmi
                 have e1 := HST.out
                 rw [onceStep_old hmi] at e1
                 rw [e1]))
             have HV := Lib.hid (HSG.out j i lo lj hij)
             rw [hcg] at HV
             obtain ⟨r, hr⟩ : ∃ r, (T (j + 1)).2.2.getD c 0 = r := ⟨_, rfl⟩
             rw [hr] at HV
             have HTK : Hid (U (seen.take (j + 1)) = U (seen.take j) ++ [.int .u64 (r.toNat : Int)]) := by refine Lib.hid ?_; rw [List.take_succ_eq_append_getElem lo, U_snoc, HV.out]
             have HF : Hid ((T (j + 1)).1 = if i ∈ (T j).1 then (T j).1 else (T j).1 ++ [i]) := by show _ = _; rw [HST.out]; exact onceStep_fst
             have HB := Lib.hid hb
             have HRR := Lib.hid hr
             have HCC := Lib.hid hcc
             clear ho hb hij hr hcc hcg hcw
             unfold closF at qF
             obtain ⟨bx, hbx⟩ : ∃ b, db.getD i 0 = b := ⟨_, rfl⟩
             rw [hbx] at qF HC
             clear hbx
             go_wp2_with fail
             refine HC.out.mono ?_
             rintro e w4 ⟨rfl, ho4, hb4⟩
             rw [← HF.out] at ho4
             have hs4 : wr.heap.size ≤ w4.heap.size := hb4.size
             have HB4 := Lib.hid (HB.out.trans hb4)
             have r0 := (ho4.var 2 rfl).1
             have r1 := (ho4.var 0 rfl).1
             obtain ⟨bk, ok, hak, rk⟩ := at_int HRK.out HB4.out (Nat.le_refl _) lic
             rw [HCC.out] at rk
             have HLD2 := Lib.hid (load_own (p := [⟨25, some ⟨w.heap.size, 0, none⟩, 1, 1, [(.slice a1 n c1)]⟩]) (j := c) (b := w.heap.size + 1) (E := 46) (n := nw) (c := nw) (st := (T (j + 1)).2.2) (q := ⟨56, some ⟨w1.heap.size, 0, none⟩, 1, 1, [.slice (some ⟨w.heap.size + 1, 0, none⟩) nw nw]⟩ :: ((vars 3 iv (fun i => .int .i64 (i : Int)) ++ vars 24 ov (fun i => .int .u64 ((nums.getD i 0).toNat : Int))) ++ (recsF db (statOfF 26 (addsCap w1.heap.size w.heap.size iv ov) (T (j + 1)).1) ++ [⟨1, some ⟨be, 0, none⟩, n, g0, (db).map closF⟩, ⟨24, e2, j, g2, U (seen.take j)⟩, ⟨24, some ⟨bL, 0, none⟩, 0, 0, []⟩]))) (by have h1 := ho4.drew; simpa [addsH, addsA] using h1) (by rw [HTW.out _ (by omega)]; exact hcw') r HRR.out)
             have HO4 := Lib.hid ho4
             clear ho4 hb4 HC qF q2
             rw [hak] at r1
             clear hak
             have HOd := Lib.hid HO4.out.drew; have HBd := Lib.hid HB4.out.drew
             go_wp2
             go_region_law (first
               | (refine step_enter rfl (f := 21) (vs := #[.pointer (some ⟨w.heap.size + 1, c, none⟩)]) (by go_simp) HLD2.out ?_)
               | (refine step_append1 Try.underlying23 info30 rfl (by decide) (addsH w.heap.size (.slice a1 n c1) (w.heap.size + 1) w1.heap.size nw iv ov nums (T (j + 1)).2.2 ++ (recsF db (statOfF 26 (addsCap w1.heap.size w.heap.size iv ov) (T (j + 1)).1) ++ [⟨1, some ⟨be, 0, none⟩, n, g0, (db).map closF⟩])) [⟨24, some ⟨bL, 0, none⟩, 0, 0, []⟩] (.tmp 64) (.tmp 72) w4.drew rfl w4.heap.size rfl rfl rfl rfl rfl (by have h1 := HOd.out; simpa using h1) rfl (by omega) (by omega) ?_; intro e3 g3 w5 ho5 hb5 hs5))
             all_goals
               have HR : Hid (Owns w5 w.heap.size (addsH w.heap.size (.slice a1 n c1) (w.heap.size + 1) w1.heap.size nw iv ov nums (T (j + 1)).2.2 ++ (recsF db (statOfF 26 (addsCap w1.heap.size w.heap.size iv ov) (T (j + 1)).1) ++ [⟨1, some ⟨be, 0, none⟩, n, g0, (db).map closF⟩, ⟨24, e3, j + 1, g3, U (seen.take (j + 1))⟩, ⟨24, some ⟨bL, 0, none⟩, 0, 0, []⟩]))) := by
                 refine Lib.hid ?_
                 rw [HTK.out]
                 simpa using ho5
               have HT := Lib.hid (HBd.out.trans hb5)
               clear ho5 hb5 HOd HBd HLD2 HO4 HB4 r0 r1 rk
               go_wp2
               go_roundw
               case rel => exact ⟨j + 1, e3, g3, by omega, by go_num, rfl, HR.out, HT.out⟩
               case measure => simp [intOf] <;> omega
           · obtain rfl : j = m := by omega
             rw [List.take_of_length_le (by rw [HSL.out]; omega), HLA.out] at ho
             have HLL : Hid (last.length = nw) := by show _ = _; rw [← HLA.out]; exact HTW.out j (Nat.le_refl _)
             have r0 := (ho.var 2 rfl).1
             have HO := Lib.hid ho; have HB := Lib.hid hb
             clear ho hb hsz
             go_wp2
             go_loopw [77, 17] (fun i v wr => ∃ (r : Nat) (e3 : Option Addr) (g3 : Nat), r ≤ nw ∧ i = .int .i64 r ∧ v = .slice e3 r g3 ∧ Owns wr w.heap.size (addsH w.heap.size (.slice a1 n c1) (w.heap.size + 1) w1.heap.size nw iv ov nums last ++ (recsF db (statOfF 26 (addsCap w1.heap.size w.heap.size iv ov) (T j).1) ++ [⟨1, e0, n, g0, (db).map closF⟩, ⟨24, e2, j, g2, U seen⟩, ⟨24, e3, r, g3, U (last.take r)⟩])) ∧ Below w.heap.size w wr) (fun i _ _ => nw - (intOf i).toNat)
             case atStart => exact ⟨0, _, _, Nat.zero_le _, rfl, rfl, HO.out, HB.out⟩
             case round =>
               clear HO HB r0
               obtain ⟨r, e3, g3, hr, rfl, rfl, ho, hb⟩ := hrel
               have hsz := hb.size
               by_cases hlr : r < nw
               · have lr : r < last.length := by rw [HLL.out]; exact hlr
                 have r0 := (ho.var 2 rfl).1
                 have HLD2 := Lib.hid (load_own (p := [⟨25, some ⟨w.heap.size, 0, none⟩, 1, 1, [(.slice a1 n c1)]⟩]) (j := r) (b := w.heap.size + 1) (E := 46) (n := nw) (c := nw) (st := last) (q := ⟨56, some ⟨w1.heap.size, 0, none⟩, 1, 1, [.slice (some ⟨w.heap.size + 1, 0, none⟩) nw nw]⟩ :: ((vars 3 iv (fun i => .int .i64 (i : Int)) ++ vars 24 ov (fun i => .int .u64 ((nums.getD i 0).toNat : Int))) ++ (recsF db (statOfF 26 (addsCap w1.heap.size w.heap.size iv ov) (T j).1) ++ [⟨1, e0, n, g0, (db).map closF⟩, ⟨24, e2, j, g2, U seen⟩, ⟨24, e3, r, g3, U (last.take r)⟩]))) (by have h1 := ho; simpa [addsH, addsA] using h1) lr _ rfl)
                 obtain ⟨x, hx⟩ : ∃ x, last.getD r 0 = x := ⟨_, rfl⟩
                 rw [hx] at HLD2
                 have HTK : Hid (U (last.take (r + 1)) = U (last.take r) ++ [.int .u64 (x.toNat : Int)]) := by
                   refine Lib.hid ?_
                   rw [List.take_succ_eq_append_getElem lr, U_snoc, ← hx]
                   simp [lr]
                 have HO := Lib.hid ho; have HB := Lib.hid hb
                 clear ho hb hx
                 go_wp2_with fail
                 refine HLD2.out.mono ?_
                 rintro e w5 ⟨rfl, rfl⟩
                 go_wp2_with (at_builtin; refine app30s (addsH w.heap.size (.slice a1 n c1) (w.heap.size + 1) w1.heap.size nw iv ov nums last ++ (recsF db (statOfF 26 (addsCap w1.heap.size w.heap.size iv ov) (T j).1) ++ [⟨1, e0, n, g0, (db).map closF⟩, ⟨24, e2, j, g2, U seen⟩])) [] (.tmp 80) (.tmp 85) rfl rfl wr.heap.size rfl rfl rfl (by have h1 := HO.out; simpa using h1) rfl (by omega) (by omega) ?_)
                 intro e4 g4 w6 ho6 hb6 hs6
                 have HR : Hid (Owns w6 w.heap.size (addsH w.heap.size (.slice a1 n c1) (w.heap.size + 1) w1.heap.size nw iv ov nums last ++ (recsF db (statOfF 26 (addsCap w1.heap.size w.heap.size iv ov) (T j).1) ++ [⟨1, e0, n, g0, (db).map closF⟩, ⟨24, e2, j, g2, U seen⟩, ⟨24, e4, r + 1, g4, U (last.take (r + 1))⟩]))) := by
                   refine Lib.hid ?_
                   rw [HTK.out]
                   simpa using ho6
                 have HT := Lib.hid (HB.out.trans hb6)
                 clear ho6 hb6 HO HB HLD2 r0
                 go_wp2
                 go_roundw
                 case rel => exact ⟨r + 1, e4, g4, by omega, by go_num, rfl, HR.out, HT.out⟩
                 case measure => simp [intOf] <;> omega
               · have hrn : nw = r := by omega
                 subst hrn
                 rw [List.take_of_length_le (by rw [HLL.out]; omega)] at ho
                 have HO := Lib.hid (ho.drop (L' := [⟨24, e2, j, g2, U seen⟩, ⟨24, e3, nw, g3, U last⟩]) (by
                   refine (List.Sublist.trans ?_ (List.sublist_append_right _ _))
                   refine (List.Sublist.trans ?_ (List.sublist_append_right _ _))
                   exact .cons _ (.refl _)))
                 have HB := Lib.hid hb
                 clear ho hb
                 go_wp2
                 go_ret2
                 exact ⟨e2, g2, e3, g3, rfl, HO.out, HB.out⟩
end Go.Proofs.Ytjjmjjbeecmmlae
