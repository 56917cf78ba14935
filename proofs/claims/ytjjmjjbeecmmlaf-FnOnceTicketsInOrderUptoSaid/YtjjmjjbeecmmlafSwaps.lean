/-
  The contract of impl.OnceSwaps.
-/
import Derived.Test.YtjjmjjbeecmmlafOnceSet
import Derived.Test.YtjjmjjbeecmmlafAtom
namespace Go.Proofs.Ytjjmjjbeecmmlaf
set_option linter.unusedVariables false
set_option linter.unusedSimpArgs false
open Go.RowKit

theorem info42 : (Try.prog.info? 67).map (fun i => (i.zero, i.size, i.bytes)) = some (some .nilFunc, 1, 8) := by kernel_rfl
section
variable {w : World} {ops : Array Oper} {rest : List Oper} {o : Oper} {a : Act} {Q : Exit → Act → World → Prop} {B : Nat} (p q : List Row) {ra : Option Addr} {n rc : Nat} {xs : List Value} {v : Value} (s x : Operand)
theorem appFs (hgd : o.guard = none) (ho : o.op = .call { callee := .builtin .append, args := #[s, x], argTypes := #[68, 68] }) (sz : Nat) (hsz : w.heap.size = sz) (hs : a.eval s = .slice ra n rc) (hx : a.eval x = .slice (some ⟨sz, 0, none⟩) 1 1)
    (hown : Owns w B (p ++ ⟨67, ra, n, rc, xs⟩ :: q)) (hv : v.oneCell' = true) (hn : n < 17592186043904) (hB : B ≤ sz)
    (h : ∀ a' c' w', Owns w' B (p ++ ⟨67, a', n + 1, c', xs ++ [v]⟩ :: q) → Below B w w' → sz ≤ w'.heap.size → wpList Try.prog ops Q rest (a.put o.dst (.slice a' (n + 1) c')) w') :
    wpList Try.prog ops Q (o :: rest) a (w.alloc (.cells #[v] 67)) :=
  wpList_append1s Try.underlying68 info42 rfl (by decide) p q s x sz hsz hgd ho hs hx hown hv (by omega) hB h
end
theorem clos_one (b : Nat) : (clos b).oneCell' = true := rfl

/-- The rows that the functions share: the cell; each one's number. -/
def swapsH (vC : Nat) (iv : List Nat) (own : List (BitVec 64)) (s : BitVec 64) : List Row := ⟨53, some ⟨vC, 0, none⟩, 1, 1, U [s]⟩ :: vars 36 iv (fun i => .int .u64 ((own.getD i 0).toNat : Int))
def swapsCap (vC : Nat) (iv : List Nat) (i : Nat) : Array Value := #[ptr vC, ptr (iv.getD i 0)]
def swapsAct (own : List (BitVec 64)) (i : Nat) (s : BitVec 64) : BitVec 64 × BitVec 64 := (s, own.getD i 0)

theorem swaps_inv (vC : Nat) (iv : List Nat) (i : Nat) (w : World) : (callFunc 37 (swapsCap vC iv i)).run Try.prog w = .ok (.enter 37 (swapsCap vC iv i)) w := by simp [go_sem, swapsCap]

theorem swaps_leaf (w : World) (B vC : Nat) (iv : List Nat) (own : List (BitVec 64)) (s : BitVec 64) (i : Nat) (Y : List Row) (hi : i < iv.length) (ho : Owns w B (swapsH vC iv own s ++ Y)) :
    Calls Try.prog 37 (swapsCap vC iv i) w (Acted B w (swapsH vC iv own (own.getD i 0)) Y s) := by
  have q1 := (ho.cellOf (j := 0) (List.mem_append_left Y (List.mem_cons_of_mem _ (vars_mem (T := 36) (f := fun i => .int .u64 ((own.getD i 0).toNat : Int)) hi))) rfl).1
  have HA := Lib.hid (swap_own (p := []) (j := 0) (st := [s]) (q := vars 36 iv (fun i => .int .u64 ((own.getD i 0).toNat : Int)) ++ Y) ho (by simp) (own.getD i 0) s rfl)
  obtain ⟨y, hy⟩ : ∃ y, own.getD i 0 = y := ⟨_, rfl⟩
  obtain ⟨bi, hbi⟩ : ∃ b, iv.getD i 0 = b := ⟨_, rfl⟩
  unfold swapsH swapsCap
  rw [hy] at HA ⊢
  simp only [hy] at q1
  rw [hbi] at q1 ⊢
  clear ho hy hbi
  go_enter Try.func37, Try.ntmps37
  go_wp2_with fail
  refine HA.out.mono ?_
  rintro e w' ⟨rfl, ho', hb'⟩
  have HO := Lib.hid ho'; have HB := Lib.hid hb'
  clear ho' hb' HA q1
  go_wp2
  go_ret
  exact ⟨rfl, HO.out, HB.out⟩

/-- What OnceSwaps leaves. -/
def Drawn (w : World) (m : Nat) (outs : List (BitVec 64)) (s : BitVec 64) (e : Ending) (w' : World) : Prop :=
  ∃ ra rc, e = .returned (.tuple #[.slice ra m rc, .int .u64 (s.toNat : Int)]) ∧ Owns w' w.heap.size [⟨36, ra, m, rc, U outs⟩] ∧ Below w.heap.size w w'

set_option maxRecDepth 100000 in
set_option maxHeartbeats 3200000 in
theorem onceSwaps_any (w : World) (start : BitVec 64) (a1 a2 : Option Addr) (n c1 m c2 : Nat) (own : List (BitVec 64)) (calls : List Nat) (hlo : own.length = n) (hro : Rd w a1 (U own)) (hn : n ≤ 1048576) (hlc : calls.length = m) (hm : m ≤ 1048576) (hrc : Rd w a2 (NI calls)) (hcn : ∀ i ∈ calls, i < n)
    (outs : List (BitVec 64)) (s : BitVec 64) (houts : onceOuts (swapsAct own) n 0 start calls = outs) (hs : (onceAt (swapsAct own) n 0 start calls m).2.2 = s) :
    Calls Try.prog 27 #[.int .u64 (start.toNat : Int), .slice a1 n c1, .slice a2 m c2] w (Drawn w m outs s) := by
  obtain ⟨T, hT⟩ : ∃ T, onceAt (swapsAct own) n 0 start calls = T := ⟨_, rfl⟩
  have HT0 : Hid (T 0 = ([], List.replicate n 0, start)) := by show _ = _; rw [← hT]; rfl
  have HTS : Hid (∀ j i (h : j < calls.length), calls[j] = i → T (j + 1) = onceStep (swapsAct own) (T j) i) := by refine Lib.hid fun j i h hi => ?_; rw [← hT]; exact onceAt_succ h hi
  have HTL : Hid (∀ j, (T j).2.1.length = n) := by refine Lib.hid fun j => ?_; rw [← hT]; exact onceAt_length
  have HOL : Hid (outs.length = m) := by show _ = _; rw [← houts, onceOuts_length, hlc]
  have HOG : Hid (∀ j i (h : j < outs.length) (h' : j < calls.length), calls[j] = i → outs[j] = (T (j + 1)).2.1.getD i 0) := by
    refine Lib.hid ?_
    subst houts
    intro j i h h' hi
    rw [← hT]
    exact onceOuts_get h h' hi
  rw [hT] at hs
  have HSS := Lib.hid hs
  have HLO := Lib.hid hlo; have HRO := Lib.hid hro; have HLC := Lib.hid hlc; have HRC := Lib.hid hrc; have HCN := Lib.hid hcn
  clear hlo hro hlc hrc hcn hT houts hs
  have hmf : ∀ (fn : Fn) (first cap : Array Value) (w : World), (Instr.makeFunc fn first cap).run Try.prog w = .ok (.func fn first cap) w := fun _ _ _ _ => rfl
  have O0 := (Owns.nil w w.heap.size).made (Nat.le_refl _) 53 #[.int .u64 0] (by simp [maxLen])
  have HS0 := Lib.hid (store_own (p := []) (q := []) (j := 0) (E := 53) (b := w.heap.size) (n := 1) (c := 1) (st := [0]) O0 (by simp) start)
  have B0 := Lib.hid ((Below.refl w.heap.size w).alloc (Nat.le_refl _) (.cells #[.int .u64 0] 53))
  clear O0
  go_enter Try.func27, Try.ntmps27
  go_wp2_with fail
  refine HS0.out.mono ?_
  rintro e w1 ⟨rfl, ho1, hb1⟩
  have B1 := Lib.hid (B0.out.trans hb1)
  have hz1 := B1.out.size
  have hs1 : w.heap.size + 1 ≤ w1.heap.size := by have := hb1.size; simpa using this
  have O1 := Lib.hid (ho1.made hz1 67 #[] (by simp))
  have B2 := Lib.hid (B1.out.alloc hz1 (.cells #[] 67))
  clear ho1 hb1 HS0 B0 B1
  go_wp2
  go_loopw [20, 9] (fun i v wr => ∃ (k : Nat) (e0 : Option Addr) (g0 : Nat) (iv db : List Nat), k ≤ n ∧ i = .int .i64 k ∧ v = .slice e0 k g0 ∧ iv.length = k ∧ db.length = k ∧ Owns wr w.heap.size ([⟨53, some ⟨w.heap.size, 0, none⟩, 1, 1, U [start]⟩] ++ (vars 36 iv (fun i => .int .u64 ((own.getD i 0).toNat : Int)) ++ (recs db (fun i => Fresh (.func (.func 37) #[] (swapsCap w.heap.size iv i)) 0) ++ [⟨67, e0, k, g0, (db).map clos⟩]))) ∧ Below w.heap.size w wr) (fun i _ _ => n - (intOf i).toNat)
  case atStart => exact ⟨0, _, _, [], [], Nat.zero_le _, rfl, rfl, rfl, rfl, by simpa [vars, recs] using O1.out, B2.out⟩
  case round =>
    clear O1 B2 hz1 hs1
    obtain ⟨k, e0, g0, iv, db, hk, rfl, rfl, hli, hld, ho, hb⟩ := hrel
    have hsz := hb.size
    by_cases hlt : k < n
    · have lk : k < own.length := by rw [HLO.out]; exact hlt
      obtain ⟨ba, oa, rfl, qa⟩ := at_u64 HRO.out hb (Nat.le_refl _) lk
      obtain ⟨x, hx⟩ : ∃ x, own[k] = x := ⟨_, rfl⟩
      have hxg : own.getD k 0 = x := by rw [← hx]; simp [lk]
      rw [hx] at qa
      have O1 := (ho.made hsz 36 #[.int .u64 (x.toNat : Int)] (by simp [maxLen])).made (by simp; omega) 76 (Fresh (.func (.func 37) #[] #[ptr w.heap.size, ptr wr.heap.size]) 0).toArray (by simp [maxLen, Fresh])
      have B1 := Lib.hid ((hb.alloc hsz (.cells #[.int .u64 (x.toNat : Int)] 36)).alloc (by simp; omega) (.cells (Fresh (.func (.func 37) #[] #[ptr w.heap.size, ptr wr.heap.size]) 0).toArray 76))
      have HO1 : Hid (Owns ((wr.alloc (.cells #[.int .u64 (x.toNat : Int)] 36)).alloc (.cells (Fresh (.func (.func 37) #[] #[ptr w.heap.size, ptr wr.heap.size]) 0).toArray 76)) w.heap.size
          (([⟨53, some ⟨w.heap.size, 0, none⟩, 1, 1, U [start]⟩] ++ (vars 36 iv (fun i => .int .u64 ((own.getD i 0).toNat : Int)) ++ recs db (fun i => Fresh (.func (.func 37) #[] (swapsCap w.heap.size iv i)) 0))) ++ ⟨67, e0, k, g0, (db).map clos⟩ :: [⟨36, some ⟨wr.heap.size, 0, none⟩, 1, 1, [.int .u64 (x.toNat : Int)]⟩, ⟨76, some ⟨wr.heap.size + 1, 0, none⟩, 7, 7, Fresh (.func (.func 37) #[] #[ptr w.heap.size, ptr wr.heap.size]) 0⟩])) := by
        refine Lib.hid ?_
        simpa [Fresh] using O1
      have HXG := Lib.hid hxg; have HLI := Lib.hid hli; have HLD := Lib.hid hld
      clear ho hb O1 hx hxg hli hld
      go_wp2_with fail
      refine (make_any _ _ _).mono ?_
      rintro e w3 ⟨rfl, rfl⟩
      go_wp2_with (at_builtin; refine appFs _ _ (.tmp 24) (.tmp 27) rfl rfl (wr.heap.size + 1 + 1) (by simp) rfl rfl HO1.out rfl (by omega) (by omega) ?_)
      intro e1 g1 w4 ho4 hb4 hs4
      have HR : Hid (Owns w4 w.heap.size ([⟨53, some ⟨w.heap.size, 0, none⟩, 1, 1, U [start]⟩] ++ (vars 36 (iv ++ [wr.heap.size]) (fun i => .int .u64 ((own.getD i 0).toNat : Int)) ++ (recs (db ++ [wr.heap.size + 1]) (fun i => Fresh (.func (.func 37) #[] (swapsCap w.heap.size (iv ++ [wr.heap.size]) i)) 0) ++ [⟨67, e1, k + 1, g1, (db ++ [wr.heap.size + 1]).map clos⟩])))) := by
        refine Lib.hid ?_
        rw [vars_snoc HLI.out, recs_snoc HLD.out]
        have eR : recs db (fun i => Fresh (.func (.func 37) #[] (swapsCap w.heap.size (iv ++ [wr.heap.size]) i)) 0) = recs db (fun i => Fresh (.func (.func 37) #[] (swapsCap w.heap.size iv i)) 0) := by
          unfold recs
          apply List.ext_getElem
          · simp
          · intro i h1 h2
            simp only [List.length_mapIdx] at h1
            have hiv : i < iv.length := by rw [HLI.out, ← HLD.out]; exact h1
            simp [swapsCap, List.getElem?_append_left hiv]
        have eK : swapsCap w.heap.size (iv ++ [wr.heap.size]) k = #[ptr w.heap.size, ptr wr.heap.size] := by
          simp [swapsCap, ← HLI.out]
        rw [eR, eK, HXG.out, List.map_append]
        refine rows_kin ?_
        have h1 := ho4
        simp only [List.append_assoc, List.cons_append, List.nil_append] at h1 ⊢
        exact h1
      have HT := Lib.hid (B1.out.trans hb4)
      clear ho4 hb4 HO1 B1
      go_wp2
      go_roundw
      case rel => exact ⟨k + 1, e1, g1, iv ++ [wr.heap.size], db ++ [wr.heap.size + 1], by omega, by go_num, rfl, by simp [HLI.out], by simp [HLD.out], HR.out, HT.out⟩
      case measure => simp [intOf]; omega
    · have hkn : n = k := by omega
      subst hkn
      have HLI := Lib.hid hli; have HLD := Lib.hid hld
      have ho0 : Owns wr w.heap.size (swapsH w.heap.size iv own (T 0).2.2 ++ (recs db (statOf 37 (swapsCap w.heap.size iv) (T 0).1 (fun i => (T 0).2.1.getD i 0)) ++ [⟨67, e0, n, g0, (db).map clos⟩])) := by
        rw [HT0.out]
        have e : statOf 37 (swapsCap w.heap.size iv) [] (fun i => (List.replicate n (0 : BitVec 64)).getD i 0) = (fun i => Fresh (.func (.func 37) #[] (swapsCap w.heap.size iv i)) 0) := by funext i; unfold statOf; rw [if_neg (by simp)]
        simp only [e]
        have h1 := ho
        simp only [← List.append_assoc] at h1 ⊢
        exact h1
      have O3 := Lib.hid (ho0.made hsz 36 #[] (by simp))
      have B3 := Lib.hid (hb.alloc hsz (.cells #[] 36))
      clear ho ho0 hb hli hld hsz
      go_wp2
      go_loopw [33, 12] (fun i v wr => ∃ (j : Nat) (e2 : Option Addr) (g2 : Nat), j ≤ m ∧ i = .int .i64 j ∧ v = .slice e2 j g2 ∧ Owns wr w.heap.size (swapsH w.heap.size iv own (T j).2.2 ++ (recs db (statOf 37 (swapsCap w.heap.size iv) (T j).1 (fun i => (T j).2.1.getD i 0)) ++ [⟨67, e0, n, g0, (db).map clos⟩, ⟨36, e2, j, g2, U (outs.take j)⟩])) ∧ Below w.heap.size w wr) (fun i _ _ => m - (intOf i).toNat)
      case atStart => exact ⟨0, _, _, Nat.zero_le _, rfl, rfl, by simpa using O3.out, B3.out⟩
      case round =>
        clear O3 B3
        obtain ⟨j, e2, g2, hj, rfl, rfl, ho, hb⟩ := hrel
        have hsz := hb.size
        by_cases hlj : j < m
        · have lj : j < calls.length := by rw [HLC.out]; exact hlj
          have lo : j < outs.length := by rw [HOL.out]; exact hlj
          obtain ⟨i, hij⟩ : ∃ i, calls[j] = i := ⟨_, rfl⟩
          have hin : i < n := by rw [← hij]; exact HCN.out _ (List.getElem_mem lj)
          obtain ⟨b2, o2, rfl, q2⟩ := at_int HRC.out hb (Nat.le_refl _) (k := j) lj
          rw [hij] at q2
          have ldb : i < db.length := by rw [HLD.out]; exact hin
          obtain ⟨be, hbe⟩ : ∃ b, e0 = some ⟨b, 0, none⟩ := by
            obtain ⟨ii, hii⟩ := List.getElem?_of_mem (show (⟨67, e0, n, g0, (db).map clos⟩ : Row) ∈ (swapsH w.heap.size iv own (T j).2.2 ++ (recs db (statOf 37 (swapsCap w.heap.size iv) (T j).1 (fun i => (T j).2.1.getD i 0)) ++ [⟨67, e0, n, g0, (db).map clos⟩, ⟨36, e2, j, g2, U (outs.take j)⟩])) by simp)
            exact ho.addr ii hii (k := i) (by simpa using ldb)
          subst hbe
          have qF : wr.cell? ⟨be, i, none⟩ = some (clos (db.getD i 0)) := (ho.cellOf (show (⟨67, some ⟨be, 0, none⟩, n, g0, (db).map clos⟩ : Row) ∈ (swapsH w.heap.size iv own (T j).2.2 ++ (recs db (statOf 37 (swapsCap w.heap.size iv) (T j).1 (fun i => (T j).2.1.getD i 0)) ++ [⟨67, some ⟨be, 0, none⟩, n, g0, (db).map clos⟩, ⟨36, e2, j, g2, U (outs.take j)⟩])) by simp) (j := i) (by simp [ldb])).1
          have HST := Lib.hid (HTS.out j i lj hij)
          have HC := Lib.hid (once_call db 37 (swapsCap w.heap.size iv) w.heap.size wr (swapsH w.heap.size iv own (T j).2.2) (swapsH w.heap.size iv own (T (j + 1)).2.2) [⟨67, some ⟨be, 0, none⟩, n, g0, (db).map clos⟩, ⟨36, e2, j, g2, U (outs.take j)⟩] i (T j).1 (fun i => (T j).2.1.getD i 0) (fun i => (T (j + 1)).2.1.getD i 0) ldb
            (swaps_inv w.heap.size iv i) ho
            (by
              intro hni w5 Y hoY _
              have e1 := HST.out
              rw [onceStep_new hni] at e1
              have e3 : (T (j + 1)).2.1.getD i 0 = (T j).2.2 := by
                rw [e1]
                simp only [List.getD_eq_getElem?_getD]
                rw [List.getElem?_set_self (by rw [HTL.out]; exact hin)]
                rfl
              have e2 : (T (j + 1)).2.2 = own.getD i 0 := by rw [e1]; rfl
              rw [e2, e3]
              exact swaps_leaf w5 w.heap.size w.heap.size iv own (T j).2.2 i Y (by rw [HLI.out]; exact hin) hoY)
            (by
              intro hmi
              have e1 := HST.out
              rw [onceStep_old hmi] at e1
              rw [e1]
              exact ⟨rfl, rfl⟩)
            (by
              intro k hk
              rw [HST.out]
              exact onceStep_other hk))
          have HV := Lib.hid (HOG.out j i lo lj hij)
          obtain ⟨r, hr⟩ : ∃ r, (T (j + 1)).2.1.getD i 0 = r := ⟨_, rfl⟩
          rw [hr] at HV
          have HTK : Hid (U (outs.take (j + 1)) = U (outs.take j) ++ [.int .u64 (r.toNat : Int)]) := by refine Lib.hid ?_; rw [List.take_succ_eq_append_getElem lo, U_snoc, HV.out]
          have HF : Hid ((T (j + 1)).1 = if i ∈ (T j).1 then (T j).1 else (T j).1 ++ [i]) := by show _ = _; rw [HST.out]; exact onceStep_fst
          have HB := Lib.hid hb
          have HRR := Lib.hid hr
          clear ho hb hij hr
          unfold clos at qF
          obtain ⟨bx, hbx⟩ : ∃ b, db.getD i 0 = b := ⟨_, rfl⟩
          rw [hbx] at qF HC
          clear hbx
          go_wp2_with fail
          refine HC.out.mono ?_
          rintro e w4 ⟨rfl, ho4, hb4⟩
          rw [HRR.out]
          rw [← HF.out] at ho4
          have hs4 : wr.heap.size ≤ w4.heap.size := hb4.size
          have HO4 := Lib.hid ho4; have HB4 := Lib.hid (HB.out.trans hb4)
          clear ho4 hb4 HC qF q2
          go_wp2_with (at_builtin; refine app30s (swapsH w.heap.size iv own (T (j + 1)).2.2 ++ (recs db (statOf 37 (swapsCap w.heap.size iv) (T (j + 1)).1 (fun i => (T (j + 1)).2.1.getD i 0)) ++ [⟨67, some ⟨be, 0, none⟩, n, g0, (db).map clos⟩])) [] (.tmp 37) (.tmp 43) rfl rfl w4.heap.size rfl rfl rfl (by have h1 := HO4.out; simpa using h1) rfl (by omega) (by omega) ?_)
          intro e3 g3 w5 ho5 hb5 hs5
          have HR : Hid (Owns w5 w.heap.size (swapsH w.heap.size iv own (T (j + 1)).2.2 ++ (recs db (statOf 37 (swapsCap w.heap.size iv) (T (j + 1)).1 (fun i => (T (j + 1)).2.1.getD i 0)) ++ [⟨67, some ⟨be, 0, none⟩, n, g0, (db).map clos⟩, ⟨36, e3, j + 1, g3, U (outs.take (j + 1))⟩]))) := by
            refine Lib.hid ?_
            rw [HTK.out]
            simpa using ho5
          have HT := Lib.hid (HB4.out.trans hb5)
          clear ho5 hb5 HO4 HB4
          go_wp2
          go_roundw
          case rel => exact ⟨j + 1, e3, g3, by omega, by go_num, rfl, HR.out, HT.out⟩
          case measure => simp [intOf]; omega
        · obtain rfl : j = m := by omega
          rw [List.take_of_length_le (by rw [HOL.out]; omega), HSS.out] at ho
          have HLD2 := Lib.hid (load_own (p := []) (j := 0) (b := w.heap.size) (E := 53) (n := 1) (c := 1) (st := [s]) (q := vars 36 iv (fun i => .int .u64 ((own.getD i 0).toNat : Int)) ++ (recs db (statOf 37 (swapsCap w.heap.size iv) (T j).1 (fun i => (T j).2.1.getD i 0)) ++ [⟨67, e0, n, g0, (db).map clos⟩, ⟨36, e2, j, g2, U outs⟩])) ho (by simp) s rfl)
          have HO := Lib.hid (ho.drop (L' := [⟨36, e2, j, g2, U outs⟩]) (by
            refine (List.Sublist.trans ?_ (List.sublist_append_right _ _))
            refine (List.Sublist.trans ?_ (List.sublist_append_right _ _))
            exact .cons _ (.refl _)))
          have HB := Lib.hid hb
          clear ho hb
          go_wp2_with fail
          refine HLD2.out.mono ?_
          rintro e w6 ⟨rfl, rfl⟩
          go_wp2
          go_ret2
          exact ⟨e2, g2, rfl, HO.out, HB.out⟩
end Go.Proofs.Ytjjmjjbeecmmlaf
