/-
  The contract of impl.OnceChanges.
-/
import Derived.Test.YtjjmjjbeecmmlaeBoolSet
import Derived.Test.YtjjmjjbeecmmlaeBools
import Derived.StillTailTactics
namespace Go.Proofs.Ytjjmjjbeecmmlae
set_option linter.unusedVariables false
set_option linter.unusedSimpArgs false
open Go.RowKit

theorem infoFB : (Try.prog.info? 53).map (fun i => (i.zero, i.size, i.bytes)) = some (some .nilFunc, 1, 8) := by kernel_rfl
section
variable {w : World} {ops : Array Oper} {rest : List Oper} {o : Oper} {a : Act} {Q : Exit → Act → World → Prop} {B : Nat} (p q : List Row) {ra : Option Addr} {n rc : Nat} {xs : List Value} {v : Value} (s x : Operand)
theorem appFBs (hgd : o.guard = none) (ho : o.op = .call { callee := .builtin .append, args := #[s, x], argTypes := #[52, 52] }) (sz : Nat) (hsz : w.heap.size = sz) (hs : a.eval s = .slice ra n rc) (hx : a.eval x = .slice (some ⟨sz, 0, none⟩) 1 1)
    (hown : Owns w B (p ++ ⟨53, ra, n, rc, xs⟩ :: q)) (hv : v.oneCell' = true) (hn : n < 17592186043904) (hB : B ≤ sz)
    (h : ∀ a' c' w', Owns w' B (p ++ ⟨53, a', n + 1, c', xs ++ [v]⟩ :: q) → Below B w w' → sz ≤ w'.heap.size → wpList Try.prog ops Q rest (a.put o.dst (.slice a' (n + 1) c')) w') :
    wpList Try.prog ops Q (o :: rest) a (w.alloc (.cells #[v] 53)) :=
  wpList_append1s Try.underlying52 infoFB rfl (by decide) p q s x sz hsz hgd ho hs hx hown hv (by omega) hB h
end

/-- The rows that the functions share: the new numbers' variable; the cell; each one's index and old number. -/
def changesV (vN : Nat) (sl : Value) (vC : Nat) (iv ov : List Nat) (olds : List (BitVec 64)) (s : BitVec 64) : List Row :=
  [⟨23, some ⟨vN, 0, none⟩, 1, 1, [sl]⟩, ⟨46, some ⟨vC, 0, none⟩, 1, 1, U [s]⟩]
def changesH (vN : Nat) (sl : Value) (vC : Nat) (iv ov : List Nat) (olds : List (BitVec 64)) (s : BitVec 64) : List Row :=
  [⟨23, some ⟨vN, 0, none⟩, 1, 1, [sl]⟩, ⟨46, some ⟨vC, 0, none⟩, 1, 1, U [s]⟩] ++ (vars 3 iv (fun i => .int .i64 (i : Int)) ++ vars 24 ov (fun i => .int .u64 ((olds.getD i 0).toNat : Int)))
def changesCap (vN vC : Nat) (iv ov : List Nat) (i : Nat) : Array Value := #[ptr vC, ptr (ov.getD i 0), ptr vN, ptr (iv.getD i 0)]
def changesAct (olds news : List (BitVec 64)) (i : Nat) (s : BitVec 64) : Bool × BitVec 64 := (decide (s = olds.getD i 0), if s = olds.getD i 0 then news.getD i 0 else s)

theorem changes_inv (vN vC : Nat) (iv ov : List Nat) (i : Nat) (w : World) : (callFunc 24 (changesCap vN vC iv ov i)).run Try.prog w = .ok (.enter 24 (changesCap vN vC iv ov i)) w := by simp [go_sem, changesCap]

set_option maxHeartbeats 800000 in
theorem changes_leaf (w : World) (B vN vC nn cn : Nat) (an : Option Addr) (iv ov : List Nat) (olds news : List (BitVec 64)) (s : BitVec 64) (i : Nat) (Y : List Row) (hi : i < iv.length) (hio : i < ov.length) (hin : i < news.length) (hnl : news.length = nn) (hbn : nn ≤ 1048576) (hrn : Rd w an (U news))
    (ho : Owns w B (changesH vN (.slice an nn cn) vC iv ov olds s ++ Y)) :
    Calls Try.prog 24 (changesCap vN vC iv ov i) w (ActedB B w (changesH vN (.slice an nn cn) vC iv ov olds (changesAct olds news i s).2) Y (changesAct olds news i s).1) := by
  have q1 := (ho.cellOf (j := 0) (List.mem_append_left Y (List.mem_append_right _ (List.mem_append_right _ (vars_mem (T := 24) (f := fun i => .int .u64 ((olds.getD i 0).toNat : Int)) hio)))) rfl).1
  have q3 := (ho.cellOf (j := 0) (List.mem_append_left Y (List.mem_append_right _ (List.mem_append_left _ (vars_mem (T := 3) (f := fun i => .int .i64 (i : Int)) hi)))) rfl).1
  have q2 := (ho.var 0 rfl).1
  obtain ⟨bn, on, rfl, qn⟩ := at_u64 hrn (Below.refl _ _) (Nat.le_refl _) hin
  have hlt : i < nn := by rw [← hnl]; exact hin
  obtain ⟨y, hy⟩ : ∃ y, olds.getD i 0 = y := ⟨_, rfl⟩
  obtain ⟨x, hx⟩ : ∃ x, news[i] = x := ⟨_, rfl⟩
  have hxg : news.getD i 0 = x := by rw [← hx]; simp [hin]
  obtain ⟨bi, hbi⟩ : ∃ b, iv.getD i 0 = b := ⟨_, rfl⟩
  obtain ⟨bo, hbo⟩ : ∃ b, ov.getD i 0 = b := ⟨_, rfl⟩
  rw [hx] at qn
  have HO := Lib.hid ho
  unfold changesCap
  simp only [hy] at q1
  rw [hbi] at q3 ⊢
  rw [hbo] at q1 ⊢
  clear hrn hx hbi hbo
  by_cases hsy : s = y
  · have HE1 : Hid ((changesAct olds news i s).1 = true) := by refine Lib.hid ?_; show decide (s = olds.getD i 0) = true; rw [hy]; simp [hsy]
    have HE2 : Hid ((changesAct olds news i s).2 = x) := by refine Lib.hid ?_; simp only [changesAct, hy, hxg]; rw [if_pos hsy]
    rw [HE1.out, HE2.out]
    subst hsy
    have HA := Lib.hid (hit_own (p := [_]) (j := 0) (b := vC) (E := 46) (n := 1) (c := 1) (st := [s]) (q := (vars 3 iv (fun i => .int .i64 (i : Int)) ++ vars 24 ov (fun i => .int .u64 ((olds.getD i 0).toNat : Int))) ++ Y) (by have h1 := ho.drew; simpa [changesH] using h1) (by simp) x s rfl)
    clear ho hy hxg
    go_enter Try.func24, Try.ntmps24
    go_wp2
    go_still_tail 5, (by kernel_rfl)
    go_wp2_with fail
    refine HA.out.mono ?_
    rintro e w' ⟨rfl, ho', hb'⟩
    have HO' := Lib.hid ho'; have HB := Lib.hid hb'
    clear ho' hb' HA q1 q2 q3 qn HO
    go_wp2
    go_ret
    exact ⟨rfl, by have h1 := HO'.out; simpa [changesH] using h1, (Below.refl B w).drew.trans HB.out⟩
  · have HE1 : Hid ((changesAct olds news i s).1 = false) := by refine Lib.hid ?_; show decide (s = olds.getD i 0) = false; rw [hy]; simp [hsy]
    have HE2 : Hid ((changesAct olds news i s).2 = s) := by refine Lib.hid ?_; simp only [changesAct, hy, hxg]; rw [if_neg hsy]
    rw [HE1.out, HE2.out]
    have HA := Lib.hid (miss_own (p := [_]) (j := 0) (b := vC) (E := 46) (n := 1) (c := 1) (st := [s]) (q := (vars 3 iv (fun i => .int .i64 (i : Int)) ++ vars 24 ov (fun i => .int .u64 ((olds.getD i 0).toNat : Int))) ++ Y) (by have h1 := ho.drew; simpa [changesH] using h1) (by simp) x s y rfl hsy)
    clear ho hy hxg hsy
    go_enter Try.func24, Try.ntmps24
    go_wp2
    go_still_tail 5, (by kernel_rfl)
    go_wp2_with fail
    refine HA.out.mono ?_
    rintro e w' ⟨rfl, rfl⟩
    clear HA q1 q2 q3 qn
    go_wp2
    go_ret
    exact ⟨rfl, HO.out.drew, (Below.refl _ _).drew⟩

theorem rows_kin2 {w : World} {B : Nat} {A V W R : List Row} {s v u r : Row} (h : Owns w B ((A ++ (V ++ (W ++ (R ++ [s])))) ++ [v] ++ [u] ++ [r])) : Owns w B (A ++ ((V ++ [v]) ++ ((W ++ [u]) ++ ((R ++ [r]) ++ [s])))) := by
  refine h.perm ?_
  simp only [List.append_assoc]
  refine (List.Perm.refl A).append ((List.Perm.refl V).append ?_)
  have e1 : (W ++ (R ++ ([s] ++ ([v] ++ ([u] ++ [r]))))).Perm ([v] ++ (W ++ (R ++ ([s] ++ ([u] ++ [r]))))) := by
    have h1 : (R ++ ([s] ++ ([v] ++ ([u] ++ [r])))).Perm ([v] ++ (R ++ ([s] ++ ([u] ++ [r])))) := by
      have h2 : ([s] ++ ([v] ++ ([u] ++ [r]))).Perm ([v] ++ ([s] ++ ([u] ++ [r]))) := List.perm_append_comm_assoc _ _ _
      exact ((List.Perm.refl R).append h2).trans (List.perm_append_comm_assoc _ _ _)
    exact ((List.Perm.refl W).append h1).trans (List.perm_append_comm_assoc _ _ _)
  refine e1.trans ((List.Perm.refl [v]).append ((List.Perm.refl W).append ?_))
  have h3 : ([s] ++ ([u] ++ [r])).Perm ([u] ++ ([r] ++ [s])) := by
    have := List.perm_append_comm (l₁ := [s]) (l₂ := [u] ++ [r])
    simpa using this
  exact ((List.Perm.refl R).append h3).trans (List.perm_append_comm_assoc _ _ _)

/-- What OnceChanges leaves. -/
def Changed (w : World) (m : Nat) (outs : List Bool) (s : BitVec 64) (e : Ending) (w' : World) : Prop :=
  ∃ ra rc, e = .returned (.tuple #[.slice ra m rc, .int .u64 (s.toNat : Int)]) ∧ Owns w' w.heap.size [⟨4, ra, m, rc, BL outs⟩] ∧ Below w.heap.size w w'

set_option maxRecDepth 100000 in
set_option maxHeartbeats 3200000 in
theorem onceChanges_any (w : World) (start : BitVec 64) (a1 a2 a3 : Option Addr) (n c1 c2 m c3 : Nat) (olds news : List (BitVec 64)) (calls : List Nat) (hlo : olds.length = n) (hro : Rd w a1 (U olds)) (hln : news.length = n) (hrn : Rd w a2 (U news)) (hn : n ≤ 1048576) (hlc : calls.length = m) (hm : m ≤ 1048576) (hrc : Rd w a3 (NI calls)) (hcn : ∀ i ∈ calls, i < n)
    (outs : List Bool) (s : BitVec 64) (houts : onceOuts (changesAct olds news) n false start calls = outs) (hs : (onceAt (changesAct olds news) n false start calls m).2.2 = s) :
    Calls Try.prog 14 #[.int .u64 (start.toNat : Int), .slice a1 n c1, .slice a2 n c2, .slice a3 m c3] w (Changed w m outs s) := by
  obtain ⟨T, hT⟩ : ∃ T, onceAt (changesAct olds news) n false start calls = T := ⟨_, rfl⟩
  have HT0 : Hid (T 0 = ([], List.replicate n false, start)) := by show _ = _; rw [← hT]; rfl
  have HTS : Hid (∀ j i (h : j < calls.length), calls[j] = i → T (j + 1) = onceStep (changesAct olds news) (T j) i) := by refine Lib.hid fun j i h hi => ?_; rw [← hT]; exact onceAt_succ h hi
  have HTL : Hid (∀ j, (T j).2.1.length = n) := by refine Lib.hid fun j => ?_; rw [← hT]; exact onceAt_length
  have HOL : Hid (outs.length = m) := by show _ = _; rw [← houts, onceOuts_length, hlc]
  have HOG : Hid (∀ j i (h : j < outs.length) (h' : j < calls.length), calls[j] = i → outs[j] = (T (j + 1)).2.1.getD i false) := by
    refine Lib.hid ?_
    subst houts
    intro j i h h' hi
    rw [← hT]
    exact onceOuts_get h h' hi
  rw [hT] at hs
  have HSS := Lib.hid hs
  have HLO := Lib.hid hlo; have HRO := Lib.hid hro; have HLN := Lib.hid hln; have HRN := Lib.hid hrn; have HLC := Lib.hid hlc; have HRC := Lib.hid hrc; have HCN := Lib.hid hcn
  clear hlo hro hln hrn hlc hrc hcn hT houts hs
  have hmf : ∀ (fn : Fn) (first cap : Array Value) (w : World), (Instr.makeFunc fn first cap).run Try.prog w = .ok (.func fn first cap) w := fun _ _ _ _ => rfl
  have O0 := ((Owns.nil w w.heap.size).made (Nat.le_refl _) 23 #[.slice a2 n c2] (by simp [maxLen])).made (by simp) 46 #[.int .u64 0] (by simp [maxLen])
  have HS0 := Lib.hid (store_own (p := [⟨23, some ⟨w.heap.size, 0, none⟩, 1, 1, [.slice a2 n c2]⟩]) (q := []) (j := 0) (E := 46) (b := w.heap.size + 1) (n := 1) (c := 1) (st := [0]) (by simpa [U] using O0) (by simp) start)
  have B0 := Lib.hid (((Below.refl w.heap.size w).alloc (Nat.le_refl _) (.cells #[.slice a2 n c2] 23)).alloc (by simp) (.cells #[.int .u64 0] 46))
  clear O0
  go_enter Try.func14, Try.ntmps14
  go_wp2_with fail
  refine HS0.out.mono ?_
  rintro e w1 ⟨rfl, ho1, hb1⟩
  have B1 := Lib.hid (B0.out.trans hb1)
  have hz1 := B1.out.size
  have O1 := Lib.hid (ho1.made hz1 53 #[] (by simp))
  have B2 := Lib.hid (B1.out.alloc hz1 (.cells #[] 53))
  clear ho1 hb1 HS0 B0 B1
  go_wp2
  go_loopw [22, 11] (fun i v wr => ∃ (k : Nat) (e0 : Option Addr) (g0 : Nat) (iv ov db : List Nat), k ≤ n ∧ i = .int .i64 k ∧ v = .slice e0 k g0 ∧ iv.length = k ∧ ov.length = k ∧ db.length = k ∧ Owns wr w.heap.size ([⟨23, some ⟨w.heap.size, 0, none⟩, 1, 1, [.slice a2 n c2]⟩, ⟨46, some ⟨w.heap.size + 1, 0, none⟩, 1, 1, U [start]⟩] ++ (vars 3 iv (fun i => .int .i64 (i : Int)) ++ (vars 24 ov (fun i => .int .u64 ((olds.getD i 0).toNat : Int)) ++ (recsB db (fun i => FreshB (.func (.func 24) #[] (changesCap w.heap.size (w.heap.size + 1) iv ov i)) 0) ++ [⟨53, e0, k, g0, (db).map closB⟩])))) ∧ Below w.heap.size w wr) (fun i _ _ => n - (intOf i).toNat)
  case atStart => exact ⟨0, _, _, [], [], [], Nat.zero_le _, rfl, rfl, rfl, rfl, rfl, by simpa [vars, recsB] using O1.out, B2.out⟩
  case round =>
    clear O1 B2 hz1
    obtain ⟨k, e0, g0, iv, ov, db, hk, rfl, rfl, hli, hlo, hld, ho, hb⟩ := hrel
    have hsz := hb.size
    by_cases hlt : k < n
    · have lk : k < olds.length := by rw [HLO.out]; exact hlt
      obtain ⟨ba, oa, rfl, qa⟩ := at_u64 HRO.out hb (Nat.le_refl _) lk
      obtain ⟨x, hx⟩ : ∃ x, olds[k] = x := ⟨_, rfl⟩
      have hxg : olds.getD k 0 = x := by rw [← hx]; simp [lk]
      rw [hx] at qa
      have O1 := ((ho.made hsz 3 #[.int .i64 (k : Int)] (by simp [maxLen])).made (by simp; omega) 24 #[.int .u64 (x.toNat : Int)] (by simp [maxLen])).made (by simp; omega) 74 (FreshB (.func (.func 24) #[] #[ptr (w.heap.size + 1), ptr (wr.heap.size + 1), ptr w.heap.size, ptr wr.heap.size]) 0).toArray (by simp [maxLen, FreshB])
      have B1 := Lib.hid (((hb.alloc hsz (.cells #[.int .i64 (k : Int)] 3)).alloc (by simp; omega) (.cells #[.int .u64 (x.toNat : Int)] 24)).alloc (by simp; omega) (.cells (FreshB (.func (.func 24) #[] #[ptr (w.heap.size + 1), ptr (wr.heap.size + 1), ptr w.heap.size, ptr wr.heap.size]) 0).toArray 74))
      have HO1 : Hid (Owns (((wr.alloc (.cells #[.int .i64 (k : Int)] 3)).alloc (.cells #[.int .u64 (x.toNat : Int)] 24)).alloc (.cells (FreshB (.func (.func 24) #[] #[ptr (w.heap.size + 1), ptr (wr.heap.size + 1), ptr w.heap.size, ptr wr.heap.size]) 0).toArray 74)) w.heap.size
          (([⟨23, some ⟨w.heap.size, 0, none⟩, 1, 1, [.slice a2 n c2]⟩, ⟨46, some ⟨w.heap.size + 1, 0, none⟩, 1, 1, U [start]⟩] ++ (vars 3 iv (fun i => .int .i64 (i : Int)) ++ (vars 24 ov (fun i => .int .u64 ((olds.getD i 0).toNat : Int)) ++ recsB db (fun i => FreshB (.func (.func 24) #[] (changesCap w.heap.size (w.heap.size + 1) iv ov i)) 0)))) ++ ⟨53, e0, k, g0, (db).map closB⟩ :: [⟨3, some ⟨wr.heap.size, 0, none⟩, 1, 1, [.int .i64 (k : Int)]⟩, ⟨24, some ⟨wr.heap.size + 1, 0, none⟩, 1, 1, [.int .u64 (x.toNat : Int)]⟩, ⟨74, some ⟨wr.heap.size + 1 + 1, 0, none⟩, 7, 7, FreshB (.func (.func 24) #[] #[ptr (w.heap.size + 1), ptr (wr.heap.size + 1), ptr w.heap.size, ptr wr.heap.size]) 0⟩])) := by
        refine Lib.hid ?_
        simpa [FreshB] using O1
      have HXG := Lib.hid hxg; have HLI := Lib.hid hli; have HLV := Lib.hid hlo; have HLD := Lib.hid hld
      clear ho hb O1 hx hxg hli hlo hld
      go_wp2_with fail
      refine (make_anyB _ _ _).mono ?_
      rintro e w3 ⟨rfl, rfl⟩
      go_wp2_with (at_builtin; refine appFBs _ _ (.tmp 27) (.tmp 30) rfl rfl (wr.heap.size + 1 + 1 + 1) (by simp) rfl rfl HO1.out rfl (by omega) (by omega) ?_)
      intro e1 g1 w4 ho4 hb4 hs4
      have HR : Hid (Owns w4 w.heap.size ([⟨23, some ⟨w.heap.size, 0, none⟩, 1, 1, [.slice a2 n c2]⟩, ⟨46, some ⟨w.heap.size + 1, 0, none⟩, 1, 1, U [start]⟩] ++ (vars 3 (iv ++ [wr.heap.size]) (fun i => .int .i64 (i : Int)) ++ (vars 24 (ov ++ [wr.heap.size + 1]) (fun i => .int .u64 ((olds.getD i 0).toNat : Int)) ++ (recsB (db ++ [wr.heap.size + 1 + 1]) (fun i => FreshB (.func (.func 24) #[] (changesCap w.heap.size (w.heap.size + 1) (iv ++ [wr.heap.size]) (ov ++ [wr.heap.size + 1]) i)) 0) ++ [⟨53, e1, k + 1, g1, (db ++ [wr.heap.size + 1 + 1]).map closB⟩]))))) := by
        refine Lib.hid ?_
        rw [vars_snoc HLI.out, vars_snoc HLV.out, recs_snocB HLD.out]
        have eR : recsB db (fun i => FreshB (.func (.func 24) #[] (changesCap w.heap.size (w.heap.size + 1) (iv ++ [wr.heap.size]) (ov ++ [wr.heap.size + 1]) i)) 0) = recsB db (fun i => FreshB (.func (.func 24) #[] (changesCap w.heap.size (w.heap.size + 1) iv ov i)) 0) := by
          unfold recsB
          apply List.ext_getElem
          · simp
          · intro i h1 h2
            simp only [List.length_mapIdx] at h1
            have hiv : i < iv.length := by rw [HLI.out, ← HLD.out]; exact h1
            have hov : i < ov.length := by rw [HLV.out, ← HLD.out]; exact h1
            simp [changesCap, List.getElem?_append_left hiv, List.getElem?_append_left hov]
        have eK : changesCap w.heap.size (w.heap.size + 1) (iv ++ [wr.heap.size]) (ov ++ [wr.heap.size + 1]) k = #[ptr (w.heap.size + 1), ptr (wr.heap.size + 1), ptr w.heap.size, ptr wr.heap.size] := by
          have h1 := HLI.out
          have h2 := HLV.out
          unfold changesCap
          rw [show (iv ++ [wr.heap.size]).getD k 0 = wr.heap.size by rw [← h1]; simp, show (ov ++ [wr.heap.size + 1]).getD k 0 = wr.heap.size + 1 by rw [← h2]; simp]
        rw [eR, eK, HXG.out, List.map_append]
        refine rows_kin2 ?_
        have h1 := ho4
        simp only [List.append_assoc, List.cons_append, List.nil_append] at h1 ⊢
        exact h1
      have HT := Lib.hid (B1.out.trans hb4)
      clear ho4 hb4 HO1 B1
      go_wp2
      go_roundw
      case rel => exact ⟨k + 1, e1, g1, iv ++ [wr.heap.size], ov ++ [wr.heap.size + 1], db ++ [wr.heap.size + 1 + 1], by omega, by go_num, rfl, by simp [HLI.out], by simp [HLV.out], by simp [HLD.out], HR.out, HT.out⟩
      case measure => simp [intOf] <;> omega
    · have hkn : n = k := by omega
      subst hkn
      have HLI := Lib.hid hli; have HLV := Lib.hid hlo; have HLD := Lib.hid hld
      have ho0 : Owns wr w.heap.size (changesH w.heap.size (.slice a2 n c2) (w.heap.size + 1) iv ov olds (T 0).2.2 ++ (recsB db (statOfB 24 (changesCap w.heap.size (w.heap.size + 1) iv ov) (T 0).1 (fun i => (T 0).2.1.getD i false)) ++ [⟨53, e0, n, g0, (db).map closB⟩])) := by
        rw [HT0.out]
        have e : statOfB 24 (changesCap w.heap.size (w.heap.size + 1) iv ov) [] (fun i => (List.replicate n false).getD i false) = (fun i => FreshB (.func (.func 24) #[] (changesCap w.heap.size (w.heap.size + 1) iv ov i)) 0) := by funext i; unfold statOfB; rw [if_neg (by simp)]
        simp only [e]
        have h1 := ho
        unfold changesH
        simp only [List.append_assoc, List.cons_append, List.nil_append] at h1 ⊢
        exact h1
      have O3 := Lib.hid (ho0.made hsz 4 #[] (by simp))
      have B3 := Lib.hid (hb.alloc hsz (.cells #[] 4))
      clear ho ho0 hb hli hlo hld hsz
      go_wp2
      go_loopw [36, 14] (fun i v wr => ∃ (j : Nat) (e2 : Option Addr) (g2 : Nat), j ≤ m ∧ i = .int .i64 j ∧ v = .slice e2 j g2 ∧ Owns wr w.heap.size (changesH w.heap.size (.slice a2 n c2) (w.heap.size + 1) iv ov olds (T j).2.2 ++ (recsB db (statOfB 24 (changesCap w.heap.size (w.heap.size + 1) iv ov) (T j).1 (fun i => (T j).2.1.getD i false)) ++ [⟨53, e0, n, g0, (db).map closB⟩, ⟨4, e2, j, g2, BL (outs.take j)⟩])) ∧ Below w.heap.size w wr) (fun i _ _ => m - (intOf i).toNat)
      case atStart => exact ⟨0, _, _, Nat.zero_le _, rfl, rfl, by simpa using O3.out, B3.out⟩
      case round =>
        clear O3 B3
        obtain ⟨j, e2, g2, hj, rfl, rfl, ho, hb⟩ := hrel
        have hsz := hb.size
        by_cases hlj : j < m
        · have lj : j < calls.length := by rw [HLC.out]; exact hlj
          have lo : j < outs.length := by rw [HOL.out]; exact hlj
          obtain ⟨i, hij⟩ : ∃ i, calls[j] = i := ⟨_, rfl⟩
          have hin : i < n := by rw [← hij]; exact HCN.out _ (List.getElem_mem lj)
          obtain ⟨b2, o2, rfl, q2⟩ := at_int HRC.out hb (Nat.le_refl _) (k := j) lj
          rw [hij] at q2
          have ldb : i < db.length := by rw [HLD.out]; exact hin
          obtain ⟨be, hbe⟩ : ∃ b, e0 = some ⟨b, 0, none⟩ := by
            obtain ⟨ii, hii⟩ := List.getElem?_of_mem (show (⟨53, e0, n, g0, (db).map closB⟩ : Row) ∈ (changesH w.heap.size (.slice a2 n c2) (w.heap.size + 1) iv ov olds (T j).2.2 ++ (recsB db (statOfB 24 (changesCap w.heap.size (w.heap.size + 1) iv ov) (T j).1 (fun i => (T j).2.1.getD i false)) ++ [⟨53, e0, n, g0, (db).map closB⟩, ⟨4, e2, j, g2, BL (outs.take j)⟩])) by simp)
            exact ho.addr ii hii (k := i) (by simpa using ldb)
          subst hbe
          have qF : wr.cell? ⟨be, i, none⟩ = some (closB (db.getD i 0)) := (ho.cellOf (show (⟨53, some ⟨be, 0, none⟩, n, g0, (db).map closB⟩ : Row) ∈ (changesH w.heap.size (.slice a2 n c2) (w.heap.size + 1) iv ov olds (T j).2.2 ++ (recsB db (statOfB 24 (changesCap w.heap.size (w.heap.size + 1) iv ov) (T j).1 (fun i => (T j).2.1.getD i false)) ++ [⟨53, some ⟨be, 0, none⟩, n, g0, (db).map closB⟩, ⟨4, e2, j, g2, BL (outs.take j)⟩])) by simp) (j := i) (by simp [ldb])).1
          have HST := Lib.hid (HTS.out j i lj hij)
          have HC := Lib.hid (once_callB db 24 (changesCap w.heap.size (w.heap.size + 1) iv ov) w.heap.size wr (changesH w.heap.size (.slice a2 n c2) (w.heap.size + 1) iv ov olds (T j).2.2) (changesH w.heap.size (.slice a2 n c2) (w.heap.size + 1) iv ov olds (T (j + 1)).2.2) [⟨53, some ⟨be, 0, none⟩, n, g0, (db).map closB⟩, ⟨4, e2, j, g2, BL (outs.take j)⟩] i (T j).1 (fun i => (T j).2.1.getD i false) (fun i => (T (j + 1)).2.1.getD i false) ldb
            (changes_inv w.heap.size (w.heap.size + 1) iv ov i) ho
            (by
              intro hni w5 Y hoY hbY
              have e1 := HST.out
              rw [onceStep_new hni] at e1
              have e3 : (T (j + 1)).2.1.getD i false = (changesAct olds news i (T j).2.2).1 := by
                rw [e1]
                simp only [List.getD_eq_getElem?_getD]
                rw [List.getElem?_set_self (by rw [HTL.out]; exact hin)]
                rfl
              have e2 : (T (j + 1)).2.2 = (changesAct olds news i (T j).2.2).2 := by rw [e1]
              rw [e2, e3]
              exact changes_leaf w5 w.heap.size w.heap.size (w.heap.size + 1) n c2 a2 iv ov olds news (T j).2.2 i Y (by rw [HLI.out]; exact hin) (by rw [HLV.out]; exact hin) (by rw [HLN.out]; exact hin) HLN.out hn (HRN.out.mono (hb.trans hbY) (Nat.le_refl _)) hoY)
            (by
              intro hmi
              have e1 := HST.out
              rw [onceStep_old hmi] at e1
              rw [e1]
              exact ⟨rfl, rfl⟩)
            (by
              intro k hk
              rw [HST.out]
              exact onceStep_other hk))
          have HV := Lib.hid (HOG.out j i lo lj hij)
          obtain ⟨r, hr⟩ : ∃ r, (T (j + 1)).2.1.getD i false = r := ⟨_, rfl⟩
          rw [hr] at HV
          have HTK : Hid (BL (outs.take (j + 1)) = BL (outs.take j) ++ [.bool r]) := by refine Lib.hid ?_; rw [List.take_succ_eq_append_getElem lo, BL_snoc, HV.out]
          have HF : Hid ((T (j + 1)).1 = if i ∈ (T j).1 then (T j).1 else (T j).1 ++ [i]) := by show _ = _; rw [HST.out]; exact onceStep_fst
          have HB := Lib.hid hb
          have HRR := Lib.hid hr
          clear ho hb hij hr
          unfold closB at qF
          obtain ⟨bx, hbx⟩ : ∃ b, db.getD i 0 = b := ⟨_, rfl⟩
          rw [hbx] at qF HC
          clear hbx
          go_wp2_with fail
          refine HC.out.mono ?_
          rintro e w4 ⟨rfl, ho4, hb4⟩
          rw [HRR.out]
          rw [← HF.out] at ho4
          have hs4 : wr.heap.size ≤ w4.heap.size := hb4.size
          have HO4 := Lib.hid ho4; have HB4 := Lib.hid (HB.out.trans hb4)
          clear ho4 hb4 HC qF q2
          go_wp2_with (at_builtin; refine appBs (changesH w.heap.size (.slice a2 n c2) (w.heap.size + 1) iv ov olds (T (j + 1)).2.2 ++ (recsB db (statOfB 24 (changesCap w.heap.size (w.heap.size + 1) iv ov) (T (j + 1)).1 (fun i => (T (j + 1)).2.1.getD i false)) ++ [⟨53, some ⟨be, 0, none⟩, n, g0, (db).map closB⟩])) [] (.tmp 40) (.tmp 46) rfl rfl w4.heap.size rfl rfl rfl (by have h1 := HO4.out; simpa using h1) rfl (by omega) (by omega) ?_)
          intro e3 g3 w5 ho5 hb5 hs5
          have HR : Hid (Owns w5 w.heap.size (changesH w.heap.size (.slice a2 n c2) (w.heap.size + 1) iv ov olds (T (j + 1)).2.2 ++ (recsB db (statOfB 24 (changesCap w.heap.size (w.heap.size + 1) iv ov) (T (j + 1)).1 (fun i => (T (j + 1)).2.1.getD i false)) ++ [⟨53, some ⟨be, 0, none⟩, n, g0, (db).map closB⟩, ⟨4, e3, j + 1, g3, BL (outs.take (j + 1))⟩]))) := by
            refine Lib.hid ?_
            rw [HTK.out]
            simpa using ho5
          have HT := Lib.hid (HB4.out.trans hb5)
          clear ho5 hb5 HO4 HB4
          go_wp2
          go_roundw
          case rel => exact ⟨j + 1, e3, g3, by omega, by go_num, rfl, HR.out, HT.out⟩
          case measure => simp [intOf] <;> omega
        · obtain rfl : j = m := by omega
          rw [List.take_of_length_le (by rw [HOL.out]; omega), HSS.out] at ho
          have HLD2 := Lib.hid (load_own (p := [_]) (j := 0) (b := w.heap.size + 1) (E := 46) (n := 1) (c := 1) (st := [s]) (q := (vars 3 iv (fun i => .int .i64 (i : Int)) ++ vars 24 ov (fun i => .int .u64 ((olds.getD i 0).toNat : Int))) ++ (recsB db (statOfB 24 (changesCap w.heap.size (w.heap.size + 1) iv ov) (T j).1 (fun i => (T j).2.1.getD i false)) ++ [⟨53, e0, n, g0, (db).map closB⟩, ⟨4, e2, j, g2, BL outs⟩])) (by have h1 := ho; simpa [changesH] using h1) (by simp) s rfl)
          have HO := Lib.hid (ho.drop (L' := [⟨4, e2, j, g2, BL outs⟩]) (by
            refine (List.Sublist.trans ?_ (List.sublist_append_right _ _))
            refine (List.Sublist.trans ?_ (List.sublist_append_right _ _))
            exact .cons _ (.refl _)))
          have HB := Lib.hid hb
          clear ho hb
          go_wp2_with fail
          refine HLD2.out.mono ?_
          rintro e w6 ⟨rfl, rfl⟩
          go_wp2
          go_ret2
          exact ⟨e2, g2, rfl, HO.out, HB.out⟩
end Go.Proofs.Ytjjmjjbeecmmlae
