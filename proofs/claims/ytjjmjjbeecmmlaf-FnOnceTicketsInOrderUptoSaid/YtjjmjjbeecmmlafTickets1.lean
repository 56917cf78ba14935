/-
  The contract of impl.OnceTickets.
-/
import Derived.Test.YtjjmjjbeecmmlafSwaps
namespace Go.Proofs.Ytjjmjjbeecmmlaf
set_option linter.unusedVariables false
set_option linter.unusedSimpArgs false
open Go.RowKit

def ticketsH (vC : Nat) (s : BitVec 64) : List Row := [⟨53, some ⟨vC, 0, none⟩, 1, 1, U [s]⟩]
def ticketsCap (vC : Nat) (_ : Nat) : Array Value := #[ptr vC]
def ticketsAct (_ : Nat) (s : BitVec 64) : BitVec 64 × BitVec 64 := (s + 1, s + 1)

theorem tickets_inv (vC i : Nat) (w : World) : (callFunc 34 (ticketsCap vC i)).run Try.prog w = .ok (.enter 34 (ticketsCap vC i)) w := by simp [go_sem, ticketsCap]

theorem tickets_leaf (w : World) (B vC : Nat) (s : BitVec 64) (i : Nat) (Y : List Row) (ho : Owns w B (ticketsH vC s ++ Y)) :
    Calls Try.prog 34 (ticketsCap vC i) w (Acted B w (ticketsH vC (s + 1)) Y (s + 1)) := by
  have HA : Hid (Calls Try.prog 31 #[.pointer (some ⟨vC, 0, none⟩), .int .u64 1] w (Wrote w B 53 vC 1 1 [] Y ([s].set 0 (s + 1)) (.int .u64 ((s + 1).toNat : Int)))) :=
    Lib.hid (add_own (p := []) (j := 0) (st := [s]) (q := Y) ho (by simp) 1#64 s _ rfl rfl)
  unfold ticketsH ticketsCap
  generalize s + 1 = z at *
  clear ho
  go_enter Try.func34, Try.ntmps34
  go_wp2_with fail
  refine HA.out.mono ?_
  rintro e w' ⟨rfl, ho', hb'⟩
  have HO := Lib.hid ho'; have HB := Lib.hid hb'
  clear ho' hb' HA
  go_wp2
  go_ret
  exact ⟨rfl, HO.out, HB.out⟩

theorem rows_kin1 {w : World} {B : Nat} {A R : List Row} {s r : Row} (h : Owns w B ((A ++ (R ++ [s])) ++ [r])) : Owns w B (A ++ ((R ++ [r]) ++ [s])) := by
  refine h.perm ?_
  simp only [List.append_assoc]
  refine (List.Perm.refl A).append ((List.Perm.refl R).append ?_)
  exact List.Perm.swap _ _ _

set_option maxRecDepth 100000 in
set_option maxHeartbeats 3200000 in
theorem onceTickets_any (w : World) (a2 : Option Addr) (n m c2 : Nat) (calls : List Nat) (hn : n ≤ 255) (hlc : calls.length = m) (hm : m ≤ 1048576) (hrc : Rd w a2 (NI calls)) (hcn : ∀ i ∈ calls, i < n)
    (outs : List (BitVec 64)) (s : BitVec 64) (houts : onceOuts ticketsAct n 0 0 calls = outs) (hs : (onceAt ticketsAct n 0 0 calls m).2.2 = s) {v0 : Value} (hv0 : v0 = .int .u8 (n : Int)) :
    Calls Try.prog 24 #[v0, .slice a2 m c2] w (Drawn w m outs s) := by
  subst hv0
  obtain ⟨T, hT⟩ : ∃ T, onceAt ticketsAct n 0 0 calls = T := ⟨_, rfl⟩
  have HT0 : Hid (T 0 = ([], List.replicate n 0, 0)) := by show _ = _; rw [← hT]; rfl
  have HTS : Hid (∀ j i (h : j < calls.length), calls[j] = i → T (j + 1) = onceStep ticketsAct (T j) i) := by refine Lib.hid fun j i h hi => ?_; rw [← hT]; exact onceAt_succ h hi
  have HTL : Hid (∀ j, (T j).2.1.length = n) := by refine Lib.hid fun j => ?_; rw [← hT]; exact onceAt_length
  have HOL : Hid (outs.length = m) := by show _ = _; rw [← houts, onceOuts_length, hlc]
  have HOG : Hid (∀ j i (h : j < outs.length) (h' : j < calls.length), calls[j] = i → outs[j] = (T (j + 1)).2.1.getD i 0) := by
    refine Lib.hid ?_
    subst houts
    intro j i h h' hi
    rw [← hT]
    exact onceOuts_get h h' hi
  rw [hT] at hs
  have HSS := Lib.hid hs
  have HLC := Lib.hid hlc; have HRC := Lib.hid hrc; have HCN := Lib.hid hcn
  clear hlc hrc hcn hT houts hs
  have hmf : ∀ (fn : Fn) (first cap : Array Value) (w : World), (Instr.makeFunc fn first cap).run Try.prog w = .ok (.func fn first cap) w := fun _ _ _ _ => rfl
  have O1 := Lib.hid (((Owns.nil w w.heap.size).made (Nat.le_refl _) 53 #[.int .u64 0] (by simp [maxLen])).made (by simp) 67 #[] (by simp))
  have B2 := Lib.hid (((Below.refl w.heap.size w).alloc (Nat.le_refl _) (.cells #[.int .u64 0] 53)).alloc (by simp) (.cells #[] 67))
  go_enter Try.func24, Try.ntmps24
  go_wp2
  go_loopw [13, 7] (fun i v wr => ∃ (k : Nat) (e0 : Option Addr) (g0 : Nat) (db : List Nat), k ≤ n ∧ i = .int .u8 k ∧ v = .slice e0 k g0 ∧ db.length = k ∧ Owns wr w.heap.size (ticketsH w.heap.size 0 ++ (recs db (fun i => Fresh (.func (.func 34) #[] (ticketsCap w.heap.size i)) 0) ++ [⟨67, e0, k, g0, (db).map clos⟩])) ∧ Below w.heap.size w wr) (fun i _ _ => n - (intOf i).toNat)
  case atStart => exact ⟨0, _, _, [], Nat.zero_le _, rfl, rfl, rfl, by simpa [recs, ticketsH, U] using O1.out, B2.out⟩
  case round =>
    clear O1 B2
    obtain ⟨k, e0, g0, db, hk, rfl, rfl, hld, ho, hb⟩ := hrel
    have hsz := hb.size
    by_cases hlt : k < n
    · have O1 := ho.made hsz 76 (Fresh (.func (.func 34) #[] #[ptr w.heap.size]) 0).toArray (by simp [maxLen, Fresh])
      have B1 := Lib.hid (hb.alloc hsz (.cells (Fresh (.func (.func 34) #[] #[ptr w.heap.size]) 0).toArray 76))
      have HO1 : Hid (Owns (wr.alloc (.cells (Fresh (.func (.func 34) #[] #[ptr w.heap.size]) 0).toArray 76)) w.heap.size
          ((ticketsH w.heap.size 0 ++ recs db (fun i => Fresh (.func (.func 34) #[] (ticketsCap w.heap.size i)) 0)) ++ ⟨67, e0, k, g0, (db).map clos⟩ :: [⟨76, some ⟨wr.heap.size, 0, none⟩, 7, 7, Fresh (.func (.func 34) #[] #[ptr w.heap.size]) 0⟩])) := by
        refine Lib.hid ?_
        simpa [Fresh] using O1
      have HLD := Lib.hid hld
      clear ho hb O1 hld
      go_wp2_with fail
      refine (make_any _ _ _).mono ?_
      rintro e w3 ⟨rfl, rfl⟩
      go_wp2_with (at_builtin; refine appFs _ _ (.tmp 15) (.tmp 18) rfl rfl (wr.heap.size + 1) (by simp) rfl rfl HO1.out rfl (by omega) (by omega) ?_)
      intro e1 g1 w4 ho4 hb4 hs4
      have HR : Hid (Owns w4 w.heap.size (ticketsH w.heap.size 0 ++ (recs (db ++ [wr.heap.size]) (fun i => Fresh (.func (.func 34) #[] (ticketsCap w.heap.size i)) 0) ++ [⟨67, e1, k + 1, g1, (db ++ [wr.heap.size]).map clos⟩]))) := by
        refine Lib.hid ?_
        rw [recs_snoc HLD.out, List.map_append]
        refine rows_kin1 ?_
        have h1 := ho4
        simp only [List.append_assoc, List.cons_append, List.nil_append] at h1 ⊢
        exact h1
      have HT := Lib.hid (B1.out.trans hb4)
      clear ho4 hb4 HO1 B1
      go_wp2
      go_roundw
      case rel => exact ⟨k + 1, e1, g1, db ++ [wr.heap.size], by omega, by go_num, rfl, by simp [HLD.out], HR.out, HT.out⟩
      case measure => simp [intOf] <;> omega
    · have hkn : n = k := by omega
      subst hkn
      have HLD := Lib.hid hld
      have ho0 : Owns wr w.heap.size (ticketsH w.heap.size (T 0).2.2 ++ (recs db (statOf 34 (ticketsCap w.heap.size) (T 0).1 (fun i => (T 0).2.1.getD i 0)) ++ [⟨67, e0, n, g0, (db).map clos⟩])) := by
        rw [HT0.out]
        have e : statOf 34 (ticketsCap w.heap.size) [] (fun i => (List.replicate n (0 : BitVec 64)).getD i 0) = (fun i => Fresh (.func (.func 34) #[] (ticketsCap w.heap.size i)) 0) := by funext i; unfold statOf; rw [if_neg (by simp)]
        simp only [e]
        exact ho
      have O3 := Lib.hid (ho0.made hsz 36 #[] (by simp))
      have B3 := Lib.hid (hb.alloc hsz (.cells #[] 36))
      clear ho ho0 hb hld hsz
      go_wp2
      go_loopw [24, 8] (fun i v wr => ∃ (j : Nat) (e2 : Option Addr) (g2 : Nat), j ≤ m ∧ i = .int .i64 j ∧ v = .slice e2 j g2 ∧ Owns wr w.heap.size (ticketsH w.heap.size (T j).2.2 ++ (recs db (statOf 34 (ticketsCap w.heap.size) (T j).1 (fun i => (T j).2.1.getD i 0)) ++ [⟨67, e0, n, g0, (db).map clos⟩, ⟨36, e2, j, g2, U (outs.take j)⟩])) ∧ Below w.heap.size w wr) (fun i _ _ => m - (intOf i).toNat)
      case atStart => exact ⟨0, _, _, Nat.zero_le _, rfl, rfl, by simpa using O3.out, B3.out⟩
      case round =>
        clear O3 B3
        obtain ⟨j, e2, g2, hj, rfl, rfl, ho, hb⟩ := hrel
        have hsz := hb.size
        by_cases hlj : j < m
        · have lj : j < calls.length := by rw [HLC.out]; exact hlj
          have lo : j < outs.length := by rw [HOL.out]; exact hlj
          obtain ⟨i, hij⟩ : ∃ i, calls[j] = i := ⟨_, rfl⟩
          have hin : i < n := by rw [← hij]; exact HCN.out _ (List.getElem_mem lj)
          obtain ⟨b2, o2, rfl, q2⟩ := at_int HRC.out hb (Nat.le_refl _) (k := j) lj
          rw [hij] at q2
          have ldb : i < db.length := by rw [HLD.out]; exact hin
          obtain ⟨be, hbe⟩ : ∃ b, e0 = some ⟨b, 0, none⟩ := by
            obtain ⟨ii, hii⟩ := List.getElem?_of_mem (show (⟨67, e0, n, g0, (db).map clos⟩ : Row) ∈ (ticketsH w.heap.size (T j).2.2 ++ (recs db (statOf 34 (ticketsCap w.heap.size) (T j).1 (fun i => (T j).2.1.getD i 0)) ++ [⟨67, e0, n, g0, (db).map clos⟩, ⟨36, e2, j, g2, U (outs.take j)⟩])) by simp)
            exact ho.addr ii hii (k := i) (by simpa using ldb)
          subst hbe
          have qF : wr.cell? ⟨be, i, none⟩ = some (clos (db.getD i 0)) := (ho.cellOf (show (⟨67, some ⟨be, 0, none⟩, n, g0, (db).map clos⟩ : Row) ∈ (ticketsH w.heap.size (T j).2.2 ++ (recs db (statOf 34 (ticketsCap w.heap.size) (T j).1 (fun i => (T j).2.1.getD i 0)) ++ [⟨67, some ⟨be, 0, none⟩, n, g0, (db).map clos⟩, ⟨36, e2, j, g2, U (outs.take j)⟩])) by simp) (j := i) (by simp [ldb])).1
          have HST := Lib.hid (HTS.out j i lj hij)
          have HC := Lib.hid (once_call db 34 (ticketsCap w.heap.size) w.heap.size wr (ticketsH w.heap.size (T j).2.2) (ticketsH w.heap.size (T (j + 1)).2.2) [⟨67, some ⟨be, 0, none⟩, n, g0, (db).map clos⟩, ⟨36, e2, j, g2, U (outs.take j)⟩] i (T j).1 (fun i => (T j).2.1.getD i 0) (fun i => (T (j + 1)).2.1.getD i 0) ldb
            (tickets_inv w.heap.size i) ho
            (by
              intro hni w5 Y hoY _
              have e1 := HST.out
              rw [onceStep_new hni] at e1
              have e3 : (T (j + 1)).2.1.getD i 0 = (T j).2.2 + 1 := by
                rw [e1]
                simp only [List.getD_eq_getElem?_getD]
                rw [List.getElem?_set_self (by rw [HTL.out]; exact hin)]
                rfl
              have e2 : (T (j + 1)).2.2 = (T j).2.2 + 1 := by rw [e1]; rfl
              rw [e2, e3]
              exact tickets_leaf w5 w.heap.size w.heap.size (T j).2.2 i Y hoY)
            (by
              intro hmi
              have e1 := HST.out
              rw [onceStep_old hmi] at e1
              rw [e1]
              exact ⟨rfl, rfl⟩)
            (by
              intro k hk
              rw [HST.out]
              exact onceStep_other hk))
          have HV := Lib.hid (HOG.out j i lo lj hij)
          obtain ⟨r, hr⟩ : ∃ r, (T (j + 1)).2.1.getD i 0 = r := ⟨_, rfl⟩
          rw [hr] at HV
          have HTK : Hid (U (outs.take (j + 1)) = U (outs.take j) ++ [.int .u64 (r.toNat : Int)]) := by refine Lib.hid ?_; rw [List.take_succ_eq_append_getElem lo, U_snoc, HV.out]
          have HF : Hid ((T (j + 1)).1 = if i ∈ (T j).1 then (T j).1 else (T j).1 ++ [i]) := by show _ = _; rw [HST.out]; exact onceStep_fst
          have HB := Lib.hid hb
          have HRR := Lib.hid hr
          clear ho hb hij hr
          unfold clos at qF
          obtain ⟨bx, hbx⟩ : ∃ b, db.getD i 0 = b := ⟨_, rfl⟩
          rw [hbx] at qF HC
          clear hbx
          go_wp2_with fail
          refine HC.out.mono ?_
          rintro e w4 ⟨rfl, ho4, hb4⟩
          rw [HRR.out]
          rw [← HF.out] at ho4
          have hs4 : wr.heap.size ≤ w4.heap.size := hb4.size
          have HO4 := Lib.hid ho4; have HB4 := Lib.hid (HB.out.trans hb4)
          clear ho4 hb4 HC qF q2
          go_wp2_with (at_builtin; refine app30s (ticketsH w.heap.size (T (j + 1)).2.2 ++ (recs db (statOf 34 (ticketsCap w.heap.size) (T (j + 1)).1 (fun i => (T (j + 1)).2.1.getD i 0)) ++ [⟨67, some ⟨be, 0, none⟩, n, g0, (db).map clos⟩])) [] (.tmp 28) (.tmp 34) rfl rfl w4.heap.size rfl rfl rfl (by have h1 := HO4.out; simpa using h1) rfl (by omega) (by omega) ?_)
          intro e3 g3 w5 ho5 hb5 hs5
          have HR : Hid (Owns w5 w.heap.size (ticketsH w.heap.size (T (j + 1)).2.2 ++ (recs db (statOf 34 (ticketsCap w.heap.size) (T (j + 1)).1 (fun i => (T (j + 1)).2.1.getD i 0)) ++ [⟨67, some ⟨be, 0, none⟩, n, g0, (db).map clos⟩, ⟨36, e3, j + 1, g3, U (outs.take (j + 1))⟩]))) := by
            refine Lib.hid ?_
            rw [HTK.out]
            simpa using ho5
          have HT := Lib.hid (HB4.out.trans hb5)
          clear ho5 hb5 HO4 HB4
          go_wp2
          go_roundw
          case rel => exact ⟨j + 1, e3, g3, by omega, by go_num, rfl, HR.out, HT.out⟩
          case measure => simp [intOf] <;> omega
        · obtain rfl : j = m := by omega
          rw [List.take_of_length_le (by rw [HOL.out]; omega), HSS.out] at ho
          have HLD2 := Lib.hid (load_own (p := []) (j := 0) (b := w.heap.size) (E := 53) (n := 1) (c := 1) (st := [s]) (q := recs db (statOf 34 (ticketsCap w.heap.size) (T j).1 (fun i => (T j).2.1.getD i 0)) ++ [⟨67, e0, n, g0, (db).map clos⟩, ⟨36, e2, j, g2, U outs⟩]) ho (by simp) s rfl)
          have HO := Lib.hid (ho.drop (L' := [⟨36, e2, j, g2, U outs⟩]) (by
            refine (List.Sublist.trans ?_ (List.sublist_append_right _ _))
            refine (List.Sublist.trans ?_ (List.sublist_append_right _ _))
            exact .cons _ (.refl _)))
          have HB := Lib.hid hb
          clear ho hb
          go_wp2_with fail
          refine HLD2.out.mono ?_
          rintro e w6 ⟨rfl, rfl⟩
          go_wp2
          go_ret2
          exact ⟨e2, g2, rfl, HO.out, HB.out⟩
end Go.Proofs.Ytjjmjjbeecmmlaf
