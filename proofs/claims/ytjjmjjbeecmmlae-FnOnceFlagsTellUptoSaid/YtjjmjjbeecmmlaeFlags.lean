/-
  The contract of impl.OnceFlags.
-/
import Derived.Test.YtjjmjjbeecmmlaeFuncSet
import Derived.Test.YtjjmjjbeecmmlaeOFns
import Derived.Test.YtjjmjjbeecmmlaeKin
import Derived.Deep.RegionWith
namespace Go.Proofs.Ytjjmjjbeecmmlae
set_option linter.unusedVariables false
set_option linter.unusedSimpArgs false
open Go.RowKit

/-- The rows that the actions share: the word; what each one has found, and its variable; each one's index and mask. -/
def flagsA (vW bF vF n : Nat) (t : List (BitVec 64) × BitVec 64) : List Row :=
  [⟨46, some ⟨vW, 0, none⟩, 1, 1, U [t.2]⟩, ⟨24, some ⟨bF, 0, none⟩, n, n, U t.1⟩, ⟨23, some ⟨vF, 0, none⟩, 1, 1, [.slice (some ⟨bF, 0, none⟩) n n]⟩]
def flagsH (vW bF vF n : Nat) (iv mv : List Nat) (masks : List (BitVec 64)) (t : List (BitVec 64) × BitVec 64) : List Row :=
  flagsA vW bF vF n t ++ (vars 3 iv (fun i => .int .i64 (i : Int)) ++ vars 24 mv (fun i => .int .u64 ((masks.getD i 0).toNat : Int)))
def flagsCap (vW vF : Nat) (iv mv : List Nat) (i : Nat) : Array Value := #[ptr vW, ptr (mv.getD i 0), ptr vF, ptr (iv.getD i 0)]
def flagsAct (masks : List (BitVec 64)) (i : Nat) (s : BitVec 64) : BitVec 64 × BitVec 64 := (s, s ||| masks.getD i 0)

theorem flags_inv (vW vF : Nat) (iv mv : List Nat) (i : Nat) (w : World) : (callFunc 19 (flagsCap vW vF iv mv i)).run Try.prog w = .ok (.enter 19 (flagsCap vW vF iv mv i)) w := by simp [go_sem, flagsCap]

set_option maxHeartbeats 3200000 in
theorem flags_leaf (w : World) (B vW bF vF n : Nat) (iv mv : List Nat) (masks : List (BitVec 64)) (t : List (BitVec 64) × BitVec 64) (i : Nat) (Y : List Row) (hi : i < iv.length) (hmi : i < mv.length) (htl : t.1.length = n) (hin : i < n) (hbn : n ≤ 1048576)
    (ho : Owns w B (flagsH vW bF vF n iv mv masks t ++ Y)) :
    Calls Try.prog 19 (flagsCap vW vF iv mv i) w (ActedF B w (flagsH vW bF vF n iv mv masks (t.1.set i t.2, t.2 ||| masks.getD i 0)) Y) := by
  have hQ : ∀ (v : World) (u : List (BitVec 64) × BitVec 64), Owns v B (flagsH vW bF vF n iv mv masks u ++ Y) → v.cell? ⟨mv.getD i 0, 0, none⟩ = some (.int .u64 ((masks.getD i 0).toNat : Int)) ∧ v.cell? ⟨iv.getD i 0, 0, none⟩ = some (.int .i64 (i : Int)) ∧ v.cell? ⟨vF, 0, none⟩ = some (.slice (some ⟨bF, 0, none⟩) n n) := fun v u hv =>
    ⟨(hv.cellOf (j := 0) (List.mem_append_left Y (List.mem_append_right _ (List.mem_append_right _ (vars_mem (T := 24) (f := fun i => .int .u64 ((masks.getD i 0).toNat : Int)) hmi)))) rfl).1,
     (hv.cellOf (j := 0) (List.mem_append_left Y (List.mem_append_right _ (List.mem_append_left _ (vars_mem (T := 3) (f := fun i => .int .i64 (i : Int)) hi)))) rfl).1, (hv.var 2 rfl).1⟩
  obtain ⟨q1, q3, q2⟩ := hQ w t ho
  have HQ := Lib.hid hQ
  have HA := Lib.hid (or_own (p := []) (j := 0) (b := vW) (E := 46) (n := 1) (c := 1) (st := [t.2]) (q := (flagsA vW bF vF n t).tail ++ (vars 3 iv (fun i => .int .i64 (i : Int)) ++ vars 24 mv (fun i => .int .u64 ((masks.getD i 0).toNat : Int))) ++ Y) (by have h1 := ho.drew; simpa [flagsH, flagsA] using h1) (by simp) (masks.getD i 0) t.2 _ rfl rfl)
  have HTL := Lib.hid htl
  obtain ⟨y, hy⟩ : ∃ y, masks.getD i 0 = y := ⟨_, rfl⟩
  obtain ⟨bi, hbi⟩ : ∃ b, iv.getD i 0 = b := ⟨_, rfl⟩
  obtain ⟨bm, hbm⟩ : ∃ b, mv.getD i 0 = b := ⟨_, rfl⟩
  unfold flagsCap
  rw [hy] at q1 HA HQ ⊢
  rw [hbi] at q3 HQ ⊢
  rw [hbm] at q1 HQ ⊢
  obtain ⟨z, hz⟩ : ∃ z, t.2 ||| y = z := ⟨_, rfl⟩
  rw [hz] at HA ⊢
  have HF : Hid (∀ (v : World), Owns v B ([] ++ ⟨46, some ⟨vW, 0, none⟩, 1, 1, U ([t.2].set 0 z)⟩ :: ((flagsA vW bF vF n t).tail ++ (vars 3 iv (fun i => .int .i64 (i : Int)) ++ vars 24 mv (fun i => .int .u64 ((masks.getD i 0).toNat : Int))) ++ Y)) →
      Owns (v.setCell ⟨bF, i, none⟩ (.int .u64 (t.2.toNat : Int))) B (flagsH vW bF vF n iv mv masks (t.1.set i t.2, z) ++ Y) ∧ Below B v (v.setCell ⟨bF, i, none⟩ (.int .u64 (t.2.toNat : Int))) ∧ Owns v B (flagsH vW bF vF n iv mv masks (t.1, z) ++ Y) ∧ v.frozen? ⟨bF, i, none⟩ = false ∧ ∃ u, v.cell? ⟨bF, i, none⟩ = some u) := by
    refine Lib.hid fun v hv => ?_
    have h1 : Owns v B (flagsH vW bF vF n iv mv masks (t.1, z) ++ Y) := by simpa [flagsH, flagsA] using hv
    have h2 := Owns.stored (p := [⟨46, some ⟨vW, 0, none⟩, 1, 1, U [z]⟩]) (r := ⟨24, some ⟨bF, 0, none⟩, n, n, U t.1⟩) (q := ⟨23, some ⟨vF, 0, none⟩, 1, 1, [.slice (some ⟨bF, 0, none⟩) n n]⟩ :: (vars 3 iv (fun i => .int .i64 (i : Int)) ++ vars 24 mv (fun i => .int .u64 ((masks.getD i 0).toNat : Int)) ++ Y)) (by simpa [flagsH, flagsA] using h1) rfl i (.int .u64 (t.2.toNat : Int))
    refine ⟨?_, h2.2, h1, h1.free 1 rfl i, h1.has 1 rfl (by simp; rw [HTL.out]; exact hin)⟩
    have h3 := h2.1
    simp only [U_set] at h3
    simpa [flagsH, flagsA] using h3
  clear ho hy hbi hbm hz hQ htl
  go_enter Try.func19, Try.ntmps19
  go_wp2
  go_region_with (go_at_call 20; refine HA.out.mono ?_; rintro e w' ⟨rfl, ho', hb'⟩; obtain ⟨hR, hbR, hM, fM, u, qM⟩ := HF.out w' ho'; obtain ⟨r1, r3, r2⟩ := HQ.out w' _ hM)
  all_goals (go_end0; exact ⟨rfl, hR, (Below.refl B w).drew.trans (hb'.trans hbR)⟩)

/-- What OnceFlags leaves. -/
def Flagged (w : World) (m n : Nat) (seen found : List (BitVec 64)) (e : Ending) (w' : World) : Prop :=
  ∃ ra rc fa fc, e = .returned (.tuple #[.slice ra m rc, .slice fa n fc]) ∧ Owns w' w.heap.size [⟨24, ra, m, rc, U seen⟩, ⟨24, fa, n, fc, U found⟩] ∧ Below w.heap.size w w'

set_option maxRecDepth 100000 in
set_option maxHeartbeats 3200000 in
theorem onceFlags_any (w : World) (a1 a3 : Option Addr) (n c1 m c3 : Nat) (masks : List (BitVec 64)) (calls : List Nat) (hlo : masks.length = n) (hro : Rd w a1 (U masks)) (hn : n ≤ 1048576) (hlc : calls.length = m) (hm : m ≤ 1048576) (hrc : Rd w a3 (NI calls)) (hcn : ∀ i ∈ calls, i < n)
    (T : Nat → List Nat × List (BitVec 64) × BitVec 64) (hT : onceAt (flagsAct masks) n 0 0 calls = T) (seen found : List (BitVec 64)) (hsl : seen.length = m) (hseen : ∀ j (h : j < seen.length), seen[j] = (T (j + 1)).2.2) (hfound : (T m).2.1 = found) :
    Calls Try.prog 10 #[.slice a1 n c1, .slice a3 m c3] w (Flagged w m n seen found) := by
  obtain ⟨i0, hi, hzz0, hzz1, hzz2⟩ := info_parts info30
  have HT0 : Hid (T 0 = ([], List.replicate n 0, 0)) := by show _ = _; rw [← hT]; rfl
  have HTS : Hid (∀ j i (h : j < calls.length), calls[j] = i → T (j + 1) = onceStep (flagsAct masks) (T j) i) := by refine Lib.hid fun j i h hi => ?_; rw [← hT]; exact onceAt_succ h hi
  have HTL : Hid (∀ j, (T j).2.1.length = n) := by refine Lib.hid fun j => ?_; rw [← hT]; exact onceAt_length
  have HSL := Lib.hid hsl; have HSG := Lib.hid hseen; have HFO := Lib.hid hfound
  have HLO := Lib.hid hlo; have HRO := Lib.hid hro; have HLC := Lib.hid hlc; have HRC := Lib.hid hrc; have HCN := Lib.hid hcn
  clear hlo hro hlc hrc hcn hT hsl hseen hfound
  have hmf : ∀ (fn : Fn) (first cap : Array Value) (w : World), (Instr.makeFunc fn first cap).run Try.prog w = .ok (.func fn first cap) w := fun _ _ _ _ => rfl
  have O0 := Lib.hid ((Owns.nil w w.heap.size).made (Nat.le_refl _) 46 #[.int .u64 0] (by simp [maxLen]))
  have B0 := Lib.hid ((Below.refl w.heap.size w).alloc (Nat.le_refl _) (.cells #[.int .u64 0] 46))
  go_enter Try.func10, Try.ntmps10
  go_wp2_with (at_make; refine wpList_make_full _ rfl _ _ 23 rfl (w.heap.size + 1) 24 i0 (.int .u64 0) 1 Try.underlying23 hi hzz0 hzz1 .i64 .i64 _ _ n rfl rfl rfl rfl (by rw [hzz2]; omega) (by simp only [maxLen]; omega) (by simp) ?_)
  intro w1 ho1 hg1
  rw [made_u64] at ho1
  obtain ⟨hoA, hbA⟩ := O0.out.makes (b := w.heap.size + 1) (by simp) (by simp) ho1 hg1
  have hs1 : w.heap.size + 1 ≤ w1.heap.size := by have := hbA.size; simpa using this
  have O2 := Lib.hid ((hoA.made (by omega) 23 #[.slice (some ⟨w.heap.size + 1, 0, none⟩) n n] (by simp [maxLen])).made (by simp; omega) 1 #[] (by simp))
  have B2 := Lib.hid (((B0.out.trans (hbA.mono (by simp))).alloc (by omega) (.cells #[.slice (some ⟨w.heap.size + 1, 0, none⟩) n n] 23)).alloc (by simp; omega) (.cells #[] 1))
  clear ho1 hg1 hoA hbA O0 B0 hi hzz0 hzz1 hzz2
  go_wp2
  go_loopw [20, 8] (fun i v wr => ∃ (k : Nat) (e0 : Option Addr) (g0 : Nat) (iv ov db : List Nat), k ≤ n ∧ i = .int .i64 k ∧ v = .slice e0 k g0 ∧ iv.length = k ∧ ov.length = k ∧ db.length = k ∧ Owns wr w.heap.size (flagsA w.heap.size (w.heap.size + 1) w1.heap.size n (List.replicate n 0, 0) ++ (vars 3 iv (fun i => .int .i64 (i : Int)) ++ (vars 24 ov (fun i => .int .u64 ((masks.getD i 0).toNat : Int)) ++ (recsF db (fun i => FreshF (.func (.func 19) #[] (flagsCap w.heap.size w1.heap.size iv ov i)) 0) ++ [⟨1, e0, k, g0, (db).map closF⟩])))) ∧ Below w.heap.size w wr) (fun i _ _ => n - (intOf i).toNat)
  case atStart => exact ⟨0, _, _, [], [], [], Nat.zero_le _, rfl, rfl, rfl, rfl, rfl, by have h1 := O2.out; simpa [vars, recsF, flagsA, U] using h1, B2.out⟩
  case round =>
    clear O2 B2 hs1
    obtain ⟨k, e0, g0, iv, ov, db, hk, rfl, rfl, hli, hlo, hld, ho, hb⟩ := hrel
    have hsz := hb.size
    by_cases hlt : k < n
    · have lk : k < masks.length := by rw [HLO.out]; exact hlt
      obtain ⟨ba, oa, rfl, qa⟩ := at_u64 HRO.out hb (Nat.le_refl _) lk
      obtain ⟨x, hx⟩ : ∃ x, masks[k] = x := ⟨_, rfl⟩
      have hxg : masks.getD k 0 = x := by rw [← hx]; simp [lk]
      rw [hx] at qa
      have O1 := ((ho.made hsz 3 #[.int .i64 (k : Int)] (by simp [maxLen])).made (by simp; omega) 24 #[.int .u64 (x.toNat : Int)] (by simp [maxLen])).made (by simp; omega) 67 (FreshF (.func (.func 19) #[] #[ptr w.heap.size, ptr (wr.heap.size + 1), ptr w1.heap.size, ptr wr.heap.size]) 0).toArray (by simp [maxLen, FreshF])
      have B1 := Lib.hid (((hb.alloc hsz (.cells #[.int .i64 (k : Int)] 3)).alloc (by simp; omega) (.cells #[.int .u64 (x.toNat : Int)] 24)).alloc (by simp; omega) (.cells (FreshF (.func (.func 19) #[] #[ptr w.heap.size, ptr (wr.heap.size + 1), ptr w1.heap.size, ptr wr.heap.size]) 0).toArray 67))
      have HO1 : Hid (Owns (((wr.alloc (.cells #[.int .i64 (k : Int)] 3)).alloc (.cells #[.int .u64 (x.toNat : Int)] 24)).alloc (.cells (FreshF (.func (.func 19) #[] #[ptr w.heap.size, ptr (wr.heap.size + 1), ptr w1.heap.size, ptr wr.heap.size]) 0).toArray 67)) w.heap.size
          ((flagsA w.heap.size (w.heap.size + 1) w1.heap.size n (List.replicate n 0, 0) ++ (vars 3 iv (fun i => .int .i64 (i : Int)) ++ (vars 24 ov (fun i => .int .u64 ((masks.getD i 0).toNat : Int)) ++ recsF db (fun i => FreshF (.func (.func 19) #[] (flagsCap w.heap.size w1.heap.size iv ov i)) 0)))) ++ ⟨1, e0, k, g0, (db).map closF⟩ :: [⟨3, some ⟨wr.heap.size, 0, none⟩, 1, 1, [.int .i64 (k : Int)]⟩, ⟨24, some ⟨wr.heap.size + 1, 0, none⟩, 1, 1, [.int .u64 (x.toNat : Int)]⟩, ⟨67, some ⟨wr.heap.size + 1 + 1, 0, none⟩, 6, 6, FreshF (.func (.func 19) #[] #[ptr w.heap.size, ptr (wr.heap.size + 1), ptr w1.heap.size, ptr wr.heap.size]) 0⟩])) := by
        refine Lib.hid ?_
        simpa [FreshF] using O1
      have HXG := Lib.hid hxg; have HLI := Lib.hid hli; have HLV := Lib.hid hlo; have HLD := Lib.hid hld
      clear ho hb O1 hx hxg hli hlo hld
      go_wp2_with fail
      refine (make_anyF _ _ _).mono ?_
      rintro e w3 ⟨rfl, rfl⟩
      go_wp2_with (at_builtin; refine appFFs _ _ (.tmp 25) (.tmp 28) rfl rfl (wr.heap.size + 1 + 1 + 1) (by simp) rfl rfl HO1.out rfl (by omega) (by omega) ?_)
      intro e1 g1 w4 ho4 hb4 hs4
      have HR : Hid (Owns w4 w.heap.size (flagsA w.heap.size (w.heap.size + 1) w1.heap.size n (List.replicate n 0, 0) ++ (vars 3 (iv ++ [wr.heap.size]) (fun i => .int .i64 (i : Int)) ++ (vars 24 (ov ++ [wr.heap.size + 1]) (fun i => .int .u64 ((masks.getD i 0).toNat : Int)) ++ (recsF (db ++ [wr.heap.size + 1 + 1]) (fun i => FreshF (.func (.func 19) #[] (flagsCap w.heap.size w1.heap.size (iv ++ [wr.heap.size]) (ov ++ [wr.heap.size + 1]) i)) 0) ++ [⟨1, e1, k + 1, g1, (db ++ [wr.heap.size + 1 + 1]).map closF⟩]))))) := by
        refine Lib.hid ?_
        rw [vars_snoc HLI.out, vars_snoc HLV.out, recs_snocF HLD.out]
        have eR : recsF db (fun i => FreshF (.func (.func 19) #[] (flagsCap w.heap.size w1.heap.size (iv ++ [wr.heap.size]) (ov ++ [wr.heap.size + 1]) i)) 0) = recsF db (fun i => FreshF (.func (.func 19) #[] (flagsCap w.heap.size w1.heap.size iv ov i)) 0) := by
          unfold recsF
          apply List.ext_getElem
          · simp
          · intro i h1 h2
            simp only [List.length_mapIdx] at h1
            have hiv : i < iv.length := by rw [HLI.out, ← HLD.out]; exact h1
            have hov : i < ov.length := by rw [HLV.out, ← HLD.out]; exact h1
            simp [flagsCap, List.getElem?_append_left hiv, List.getElem?_append_left hov]
        have eK : flagsCap w.heap.size w1.heap.size (iv ++ [wr.heap.size]) (ov ++ [wr.heap.size + 1]) k = #[ptr w.heap.size, ptr (wr.heap.size + 1), ptr w1.heap.size, ptr wr.heap.size] := by
          have h1 := HLI.out
          have h2 := HLV.out
          unfold flagsCap
          rw [show (iv ++ [wr.heap.size]).getD k 0 = wr.heap.size by rw [← h1]; simp, show (ov ++ [wr.heap.size + 1]).getD k 0 = wr.heap.size + 1 by rw [← h2]; simp]
        rw [eR, eK, HXG.out, List.map_append]
        refine rows_kin2 ?_
        have h1 := ho4
        simp only [List.append_assoc, List.cons_append, List.nil_append] at h1 ⊢
        exact h1
      have HT := Lib.hid (B1.out.trans hb4)
      clear ho4 hb4 HO1 B1
      go_wp2
      go_roundw
      case rel => exact ⟨k + 1, e1, g1, iv ++ [wr.heap.size], ov ++ [wr.heap.size + 1], db ++ [wr.heap.size + 1 + 1], by omega, by go_num, rfl, by simp [HLI.out], by simp [HLV.out], by simp [HLD.out], HR.out, HT.out⟩
      case measure => simp [intOf] <;> omega
    · have hkn : n = k := by omega
      subst hkn
      have HLI := Lib.hid hli; have HLV := Lib.hid hlo; have HLD := Lib.hid hld
      have ho0 : Owns wr w.heap.size (flagsH w.heap.size (w.heap.size + 1) w1.heap.size n iv ov masks (T 0).2 ++ (recsF db (statOfF 19 (flagsCap w.heap.size w1.heap.size iv ov) (T 0).1) ++ [⟨1, e0, n, g0, (db).map closF⟩])) := by
        rw [HT0.out]
        have e : statOfF 19 (flagsCap w.heap.size w1.heap.size iv ov) [] = (fun i => FreshF (.func (.func 19) #[] (flagsCap w.heap.size w1.heap.size iv ov i)) 0) := by funext i; unfold statOfF; rw [if_neg (by simp)]
        simp only [e]
        have h1 := ho
        unfold flagsH
        simp only [List.append_assoc, List.cons_append, List.nil_append] at h1 ⊢
        exact h1
      have O3 := Lib.hid (ho0.made hsz 24 #[] (by simp))
      have B3 := Lib.hid (hb.alloc hsz (.cells #[] 24))
      clear ho ho0 hb hli hlo hld hsz
      go_wp2
      go_loopw [34, 11] (fun i v wr => ∃ (j : Nat) (e2 : Option Addr) (g2 : Nat), j ≤ m ∧ i = .int .i64 j ∧ v = .slice e2 j g2 ∧ Owns wr w.heap.size (flagsH w.heap.size (w.heap.size + 1) w1.heap.size n iv ov masks (T j).2 ++ (recsF db (statOfF 19 (flagsCap w.heap.size w1.heap.size iv ov) (T j).1) ++ [⟨1, e0, n, g0, (db).map closF⟩, ⟨24, e2, j, g2, U (seen.take j)⟩])) ∧ Below w.heap.size w wr) (fun i _ _ => m - (intOf i).toNat)
      case atStart => exact ⟨0, _, _, Nat.zero_le _, rfl, rfl, by simpa using O3.out, B3.out⟩
      case round =>
        clear O3 B3
        obtain ⟨j, e2, g2, hj, rfl, rfl, ho, hb⟩ := hrel
        have hsz := hb.size
        by_cases hlj : j < m
        · have lj : j < calls.length := by rw [HLC.out]; exact hlj
          have lo : j < seen.length := by rw [HSL.out]; exact hlj
          obtain ⟨i, hij⟩ : ∃ i, calls[j] = i := ⟨_, rfl⟩
          have hin : i < n := by rw [← hij]; exact HCN.out _ (List.getElem_mem lj)
          obtain ⟨b2, o2, rfl, q2⟩ := at_int HRC.out hb (Nat.le_refl _) (k := j) lj
          rw [hij] at q2
          have ldb : i < db.length := by rw [HLD.out]; exact hin
          obtain ⟨be, hbe⟩ : ∃ b, e0 = some ⟨b, 0, none⟩ := by
            obtain ⟨ii, hii⟩ := List.getElem?_of_mem (show (⟨1, e0, n, g0, (db).map closF⟩ : Row) ∈ (flagsH w.heap.size (w.heap.size + 1) w1.heap.size n iv ov masks (T j).2 ++ (recsF db (statOfF 19 (flagsCap w.heap.size w1.heap.size iv ov) (T j).1) ++ [⟨1, e0, n, g0, (db).map closF⟩, ⟨24, e2, j, g2, U (seen.take j)⟩])) by simp)
            exact ho.addr ii hii (k := i) (by simpa using ldb)
          subst hbe
          have qF : wr.cell? ⟨be, i, none⟩ = some (closF (db.getD i 0)) := (ho.cellOf (show (⟨1, some ⟨be, 0, none⟩, n, g0, (db).map closF⟩ : Row) ∈ (flagsH w.heap.size (w.heap.size + 1) w1.heap.size n iv ov masks (T j).2 ++ (recsF db (statOfF 19 (flagsCap w.heap.size w1.heap.size iv ov) (T j).1) ++ [⟨1, some ⟨be, 0, none⟩, n, g0, (db).map closF⟩, ⟨24, e2, j, g2, U (seen.take j)⟩])) by simp) (j := i) (by simp [ldb])).1
          have HST := Lib.hid (HTS.out j i lj hij)
          have HC := Lib.hid (once_callF db 19 (flagsCap w.heap.size w1.heap.size iv ov) w.heap.size wr (flagsH w.heap.size (w.heap.size + 1) w1.heap.size n iv ov masks (T j).2) (flagsH w.heap.size (w.heap.size + 1) w1.heap.size n iv ov masks (T (j + 1)).2) [⟨1, some ⟨be, 0, none⟩, n, g0, (db).map closF⟩, ⟨24, e2, j, g2, U (seen.take j)⟩] i (T j).1 ldb
            (flags_inv w.heap.size w1.heap.size iv ov i) ho
            (by
              intro hni w5 Y hoY hbY
              have e1 := HST.out
              rw [onceStep_new hni] at e1
              have e2 : (T (j + 1)).2 = ((T j).2.1.set i (T j).2.2, (T j).2.2 ||| masks.getD i 0) := by rw [e1]; rfl
              rw [e2]
              exact flags_leaf w5 w.heap.size w.heap.size (w.heap.size + 1) w1.heap.size n iv ov masks (T j).2 i Y (by rw [HLI.out]; exact hin) (by rw [HLV.out]; exact hin) (HTL.out j) hin hn hoY)
            (by
              intro hmi
              have e1 := HST.out
              rw [onceStep_old hmi] at e1
              rw [e1]))
          have HV := Lib.hid (HSG.out j lo)
          obtain ⟨r, hr⟩ : ∃ r, (T (j + 1)).2.2 = r := ⟨_, rfl⟩
          rw [hr] at HV
          have HTK : Hid (U (seen.take (j + 1)) = U (seen.take j) ++ [.int .u64 (r.toNat : Int)]) := by refine Lib.hid ?_; rw [List.take_succ_eq_append_getElem lo, U_snoc, HV.out]
          have HF : Hid ((T (j + 1)).1 = if i ∈ (T j).1 then (T j).1 else (T j).1 ++ [i]) := by show _ = _; rw [HST.out]; exact onceStep_fst
          have HB := Lib.hid hb
          have HRR := Lib.hid hr
          clear ho hb hij hr
          unfold closF at qF
          obtain ⟨bx, hbx⟩ : ∃ b, db.getD i 0 = b := ⟨_, rfl⟩
          rw [hbx] at qF HC
          clear hbx
          go_wp2_with fail
          refine HC.out.mono ?_
          rintro e w4 ⟨rfl, ho4, hb4⟩
          rw [← HF.out] at ho4
          have hs4 : wr.heap.size ≤ w4.heap.size := hb4.size
          have HLD2 := Lib.hid (load_own (p := []) (j := 0) (b := w.heap.size) (E := 46) (n := 1) (c := 1) (st := [(T (j + 1)).2.2]) (q := (flagsA w.heap.size (w.heap.size + 1) w1.heap.size n (T (j + 1)).2).tail ++ (vars 3 iv (fun i => .int .i64 (i : Int)) ++ vars 24 ov (fun i => .int .u64 ((masks.getD i 0).toNat : Int))) ++ (recsF db (statOfF 19 (flagsCap w.heap.size w1.heap.size iv ov) (T (j + 1)).1) ++ [⟨1, some ⟨be, 0, none⟩, n, g0, (db).map closF⟩, ⟨24, e2, j, g2, U (seen.take j)⟩])) (by have h1 := ho4; simpa [flagsH, flagsA] using h1) (by simp) r HRR.out)
          have HO4 := Lib.hid ho4; have HB4 := Lib.hid (HB.out.trans hb4)
          clear ho4 hb4 HC qF q2
          go_wp2_with fail
          refine HLD2.out.mono ?_
          rintro e w4' ⟨rfl, rfl⟩
          go_wp2_with (at_builtin; refine app30s (flagsH w.heap.size (w.heap.size + 1) w1.heap.size n iv ov masks (T (j + 1)).2 ++ (recsF db (statOfF 19 (flagsCap w.heap.size w1.heap.size iv ov) (T (j + 1)).1) ++ [⟨1, some ⟨be, 0, none⟩, n, g0, (db).map closF⟩])) [] (.tmp 43) (.tmp 45) rfl rfl w4.heap.size rfl rfl rfl (by have h1 := HO4.out; simpa using h1) rfl (by omega) (by omega) ?_)
          intro e3 g3 w5 ho5 hb5 hs5
          have HR : Hid (Owns w5 w.heap.size (flagsH w.heap.size (w.heap.size + 1) w1.heap.size n iv ov masks (T (j + 1)).2 ++ (recsF db (statOfF 19 (flagsCap w.heap.size w1.heap.size iv ov) (T (j + 1)).1) ++ [⟨1, some ⟨be, 0, none⟩, n, g0, (db).map closF⟩, ⟨24, e3, j + 1, g3, U (seen.take (j + 1))⟩]))) := by
            refine Lib.hid ?_
            rw [HTK.out]
            simpa using ho5
          have HT := Lib.hid (HB4.out.trans hb5)
          clear ho5 hb5 HO4 HB4 HLD2
          go_wp2
          go_roundw
          case rel => exact ⟨j + 1, e3, g3, by omega, by go_num, rfl, HR.out, HT.out⟩
          case measure => simp [intOf] <;> omega
        · obtain rfl : j = m := by omega
          rw [List.take_of_length_le (by rw [HSL.out]; omega)] at ho
          have qV := (ho.var 2 rfl).1
          have HO : Hid (Owns wr w.heap.size [⟨24, e2, j, g2, U seen⟩, ⟨24, some ⟨w.heap.size + 1, 0, none⟩, n, n, U found⟩]) := by
            refine Lib.hid ?_
            have h1 := ho.drop (L' := [⟨24, some ⟨w.heap.size + 1, 0, none⟩, n, n, U found⟩, ⟨24, e2, j, g2, U seen⟩]) (by
              unfold flagsH flagsA
              rw [HFO.out]
              simp only [List.cons_append, List.nil_append, List.append_assoc]
              refine .cons _ (.cons_cons _ (.cons _ ?_))
              refine (List.Sublist.trans ?_ (List.sublist_append_right _ _))
              refine (List.Sublist.trans ?_ (List.sublist_append_right _ _))
              refine (List.Sublist.trans ?_ (List.sublist_append_right _ _))
              exact .cons _ (.refl _))
            exact h1.perm (List.Perm.swap _ _ _)
          have HB := Lib.hid hb
          clear ho hb
          go_wp2
          go_quiet (fail)
          go_wp2
          go_ret2
          exact ⟨e2, g2, some ⟨w.heap.size + 1, 0, none⟩, n, rfl, HO.out.drewN _, below_drewN HB.out _⟩
end Go.Proofs.Ytjjmjjbeecmmlae
