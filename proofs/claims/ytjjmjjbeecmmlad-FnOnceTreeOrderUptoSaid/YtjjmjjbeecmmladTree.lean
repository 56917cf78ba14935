/-
  The functions of impl.OnceTree: a call of node i runs what has not run yet, in the order of a walk, and returns the node's value.
-/
import Derived.Test.YtjjmjjbeecmmladOnceValue
import Derived.Test.YtjjmjjbeecmmladTreePlain
import Derived.Test.YtjjmjjbeecmmladRead
namespace Go.Proofs.Ytjjmjjbeecmmlad
set_option linter.unusedVariables false
set_option linter.unusedSimpArgs false
open Go.RowKit

abbrev ptr (b : Nat) : Value := .pointer (some ⟨b, 0, none⟩)

theorem Owns.cellOf {w : World} {B : Nat} {L : List Row} {e : TypeId} {b n c : Nat} {xs : List Value} (h : Owns w B L) (hr : (⟨e, some ⟨b, 0, none⟩, n, c, xs⟩ : Row) ∈ L) {j : Nat} {v : Value} (hv : xs[j]? = some v) : w.cell? ⟨b, j, none⟩ = some v ∧ w.frozen? ⟨b, j, none⟩ = false := by
  obtain ⟨i, hi⟩ := List.getElem?_of_mem hr
  have hj : j < xs.length := (List.getElem?_eq_some_iff.1 hv).1
  obtain ⟨b', hb, hc, hf, _⟩ := h.cellAt i hi hj
  simp only [Option.some.injEq, Addr.mk.injEq, and_true] at hb
  subst hb
  exact ⟨hc.trans hv, hf⟩

/-- Where everything lies: the data of nodes and counts; the variables that the functions hold; each node's own index and record; the arguments. -/
structure Tree where
  n : Nat
  nb : Option Addr
  cb : Option Addr
  vN : Nat
  vC : Nat
  vO : Nat
  vS : Nat
  vP : Nat
  iv : List Nat
  db : List Nat
  a0 : Option Addr
  np : Nat
  c0 : Nat
  a1 : Option Addr
  c1 : Nat
  ex : List Row

def clos (b : Nat) : Value := .func (.func 23) #[] #[ptr b]

section
variable (t : Tree)
def Tree.ivb (i : Nat) : Nat := t.iv.getD i 0
def Tree.dbb (i : Nat) : Nat := t.db.getD i 0
def Tree.cap (i : Nat) : Array Value := #[ptr t.vC, ptr (t.ivb i), ptr t.vS, ptr t.vP, ptr t.vN, ptr t.vO]
def Tree.fv (i : Nat) : Value := .func (.func 20) #[] (t.cap i)
def Tree.ivs : List Row := t.iv.mapIdx fun i b => ⟨3, some ⟨b, 0, none⟩, 1, 1, [.int .i64 (i : Int)]⟩
def Tree.ds (D : Nat → List Value) : List Row := t.db.mapIdx fun i b => ⟨60, some ⟨b, 0, none⟩, 7, 7, D i⟩
def Tree.rest (D : Nat → List Value) : List Row := t.ivs ++ (t.ds D ++ t.ex)
def Tree.rows (ord : List Nat) (cnt : List (BitVec 64)) (oa : Option Addr) (oc : Nat) (D : Nat → List Value) : List Row :=
  ⟨42, t.nb, t.n, t.n, t.db.map clos⟩ :: ⟨40, some ⟨t.vN, 0, none⟩, 1, 1, [.slice t.nb t.n t.n]⟩ ::
  ⟨48, t.cb, t.n, t.n, U cnt⟩ :: ⟨41, some ⟨t.vC, 0, none⟩, 1, 1, [.slice t.cb t.n t.n]⟩ ::
  ⟨3, oa, ord.length, oc, NI ord⟩ :: ⟨28, some ⟨t.vO, 0, none⟩, 1, 1, [.slice oa ord.length oc]⟩ ::
  ⟨23, some ⟨t.vS, 0, none⟩, 1, 1, [.slice t.a1 t.n t.c1]⟩ :: ⟨26, some ⟨t.vP, 0, none⟩, 1, 1, [.slice t.a0 t.np t.c0]⟩ :: t.rest D
end

/-- A node's record, by whether it has run. -/
def Tree.stat (t : Tree) (ps : Nat → List Nat) (own : Nat → BitVec 64) (ord : List Nat) (i : Nat) : List Value := if i ∈ ord then Ran (val ps own i) 1 0 else Fresh (t.fv i) 0

/-- What the arguments are. -/
structure TreeIn (t : Tree) (ps : Nat → List Nat) (ownL : List (BitVec 64)) (w0 : World) : Prop where
  n12 : t.n ≤ 1048576
  lown : ownL.length = t.n
  liv : t.iv.length = t.n
  ldb : t.db.length = t.n
  lnp : t.n ≤ t.np
  bnp : t.np ≤ 17592186043904
  rown : Rd w0 t.a1 (U ownL)
  par : ∀ i, i < t.n → ∃ b o pa pc, t.a0 = some ⟨b, o, none⟩ ∧ b < w0.heap.size ∧ w0.cell? ⟨b, o + i, none⟩ = some (.slice pa (ps i).length pc) ∧ Rd w0 pa (NI (ps i)) ∧ (ps i).length ≤ 1048576
  less : ∀ i, ∀ p ∈ ps i, p < i

def NodePost (t : Tree) (ps : Nat → List Nat) (own : Nat → BitVec 64) (B : Nat) (w : World) (i : Nat) (s : List Nat × List (BitVec 64)) (D : Nat → List Value) (e : Ending) (w' : World) : Prop :=
  e = .returned (.int .u64 ((val ps own i).toNat : Int)) ∧ ∃ oa oc, Owns w' B (t.rows s.1 s.2 oa oc D) ∧ Below B w w'

/-- The contract of all nodes below f. -/
def NodesOK (t : Tree) (ps : Nat → List Nat) (own : Nat → BitVec 64) (w0 : World) (B f : Nat) : Prop :=
  ∀ i, i < f → i < t.n → ∀ (w : World) (s : List Nat × List (BitVec 64)) (D : Nat → List Value) (oa : Option Addr) (oc : Nat),
    (∀ j, j ≤ i → D j = t.stat ps own s.1 j) → Fine t.n s → Owns w B (t.rows s.1 s.2 oa oc D) → Below B w0 w →
    Calls Try.prog 23 #[ptr (t.dbb i)] w (NodePost t ps own B w i (runF ps f i s) (fun j => if j ≤ i then t.stat ps own (runF ps f i s).1 j else D j))

section
variable {t : Tree} {D : Nat → List Value} {i : Nat}
theorem Tree.iv_mem (h : i < t.iv.length) : (⟨3, some ⟨t.ivb i, 0, none⟩, 1, 1, [.int .i64 (i : Int)]⟩ : Row) ∈ t.rest D := by
  unfold Tree.rest Tree.ivs
  refine List.mem_append_left _ (List.mem_mapIdx.2 ⟨i, h, ?_⟩)
  simp [h, Tree.ivb]

theorem Tree.ds_get (h : i < t.db.length) : (t.ds D)[i]? = some ⟨60, some ⟨t.dbb i, 0, none⟩, 7, 7, D i⟩ := by
  simp [Tree.ds, h, Tree.dbb]

theorem Tree.ds_set {D' : Nat → List Value} (h : i < t.db.length) (hD : ∀ j, ¬ j = i → D' j = D j) : (t.ds D).take i ++ ⟨60, some ⟨t.dbb i, 0, none⟩, 7, 7, D' i⟩ :: (t.ds D).drop (i + 1) = t.ds D' := by
  have hl : i < (t.ds D).length := by simp [Tree.ds, h]
  have hset := List.set_eq_take_append_cons_drop (l := t.ds D) (i := i) (a := ⟨60, some ⟨t.dbb i, 0, none⟩, 7, 7, D' i⟩)
  rw [if_pos hl] at hset
  rw [← hset]
  apply List.ext_getElem?
  intro k
  rw [List.getElem?_set]
  by_cases hk : i = k
  · subst hk
    rw [if_pos rfl, if_pos hl, Tree.ds_get h]
  · rw [if_neg hk]
    by_cases hkl : k < t.db.length
    · rw [Tree.ds_get hkl, Tree.ds_get hkl, hD k (fun e => hk e.symm)]
    · rw [List.getElem?_eq_none (by simp [Tree.ds]; omega), List.getElem?_eq_none (by simp [Tree.ds]; omega)]
end

theorem inv_leaf (t : Tree) (i : Nat) (w : World) : (callFunc 20 (t.cap i)).run Try.prog w = .ok (.enter 20 (t.cap i)) w := by simp [go_sem, Tree.cap]

theorem Owns.var {w : World} {B : Nat} {L : List Row} {e : TypeId} {b n c : Nat} {v : Value} {xs : List Value} (h : Owns w B L) (i : Nat) (hi : L[i]? = some ⟨e, some ⟨b, 0, none⟩, n, c, v :: xs⟩) : w.cell? ⟨b, 0, none⟩ = some v ∧ w.frozen? ⟨b, 0, none⟩ = false :=
  h.cellOf (List.mem_of_getElem? hi) rfl

theorem add1_own {w : World} {B E b n c j : Nat} {p q : List Row} {st : List (BitVec 64)} (h : Owns w B (p ++ ⟨E, some ⟨b, 0, none⟩, n, c, U st⟩ :: q)) (hj : j < st.length) :
    Calls Try.prog 21 #[.pointer (some ⟨b, j, none⟩), .int .u64 1] w (Wrote w B E b n c p q (st.set j (st.getD j 0 + 1)) (.int .u64 ((st.getD j 0 + 1).toNat : Int))) :=
  add_own h hj 1#64 _ _ rfl rfl

theorem Tree.iv_cell {t : Tree} {w : World} {B : Nat} {ord : List Nat} {cnt : List (BitVec 64)} {oa : Option Addr} {oc : Nat} {D : Nat → List Value} (h : Owns w B (t.rows ord cnt oa oc D)) {i : Nat} (hi : i < t.iv.length) : w.cell? ⟨t.ivb i, 0, none⟩ = some (.int .i64 (i : Int)) :=
  (h.cellOf (j := 0) (List.mem_append_right [_, _, _, _, _, _, _, _] (Tree.iv_mem hi)) rfl).1

/-- The state when j parents of node i have been called. -/
def midway (ps : Nat → List Nat) (f i j : Nat) (s : List Nat × List (BitVec 64)) : List Nat × List (BitVec 64) := ((ps i).take j).foldl (fun s p => runF ps f p s) (s.1, s.2.set i (s.2.getD i 0 + 1))

section
variable {ps : Nat → List Nat} {f i j : Nat} {s : List Nat × List (BitVec 64)}
theorem midway_zero : midway ps f i 0 s = (s.1, s.2.set i (s.2.getD i 0 + 1)) := rfl
theorem midway_succ {p : Nat} (h : j < (ps i).length) (hp : (ps i)[j] = p) : midway ps f i (j + 1) s = runF ps f p (midway ps f i j s) := by
  unfold midway
  rw [List.take_succ_eq_append_getElem h, List.foldl_append, hp]
  rfl
theorem midway_all (hn : ¬ i ∈ s.1) : runF ps (f + 1) i s = ((midway ps f i (ps i).length s).1 ++ [i], (midway ps f i (ps i).length s).2) := by
  unfold midway
  rw [List.take_of_length_le (Nat.le_refl _)]
  simp only [runF]
  rw [if_neg hn]
theorem midway_fine {n : Nat} (hps : ∀ i, ∀ p ∈ ps i, p < i) (hi : i < n) (hf : Fine n s) (hj : j ≤ (ps i).length) : Fine n (midway ps f i j s) := by
  induction j with
  | zero => exact ⟨hf.1, hf.2.1, by rw [midway_zero]; simpa using hf.2.2⟩
  | succ j ih =>
    rw [midway_succ (by omega) rfl]
    exact runF_fine hps _ _ _ (by have := hps i _ (List.getElem_mem (show j < (ps i).length by omega)); omega) (ih (by omega))
end

theorem Tree.stat_snoc {t : Tree} {ps : Nat → List Nat} {own : Nat → BitVec 64} {ord : List Nat} {i j : Nat} (h : j < i) : t.stat ps own (ord ++ [i]) j = t.stat ps own ord j := by
  unfold Tree.stat
  have : (j ∈ ord ++ [i]) = (j ∈ ord) := by simp; omega
  simp only [this]

def sumTo (ps : Nat → List Nat) (own : Nat → BitVec 64) (i j : Nat) : BitVec 64 := ((ps i).take j).foldl (fun s p => s + val ps own p) (own i)
theorem sumTo_succ {ps : Nat → List Nat} {own : Nat → BitVec 64} {i j p : Nat} (h : j < (ps i).length) (hp : (ps i)[j] = p) : sumTo ps own i (j + 1) = sumTo ps own i j + val ps own p := by
  unfold sumTo
  rw [List.take_succ_eq_append_getElem h, List.foldl_append, hp]
  rfl

set_option maxRecDepth 100000 in
set_option maxHeartbeats 3200000 in
/-- The function of node i, called for the first time. -/
theorem leaf_any (t : Tree) (ps : Nat → List Nat) (ownL : List (BitVec 64)) (w0 : World) (hin : TreeIn t ps ownL w0) (f : Nat) (ih : NodesOK t ps (fun i => ownL.getD i 0) w0 w0.heap.size f)
    (i : Nat) (hif : i < f + 1) (hi : i < t.n) (w : World) (s : List Nat × List (BitVec 64)) (D : Nat → List Value) (oa : Option Addr) (oc : Nat) (hD : ∀ j, j < i → D j = t.stat ps (fun i => ownL.getD i 0) s.1 j) (hni : ¬ i ∈ s.1) (hfi : Fine t.n s)
    (ho : Owns w w0.heap.size (t.rows s.1 s.2 oa oc D)) (hb : Below w0.heap.size w0 w) :
    Calls Try.prog 20 (t.cap i) w (NodePost t ps (fun i => ownL.getD i 0) w0.heap.size w i (runF ps (f + 1) i s) (fun j => if j < i then t.stat ps (fun i => ownL.getD i 0) (runF ps (f + 1) i s).1 j else D j)) := by
  have IN := Lib.hid hin; have IH := Lib.hid ih; have HD := Lib.hid hD; have HNI := Lib.hid hni; have HFI := Lib.hid hfi
  have hn12 := hin.n12
  have hlp := hin.lnp; have hbnp := hin.bnp
  clear hin ih hD hni hfi
  have hsz := hb.size
  obtain ⟨bc, hbc⟩ := ho.addr 2 rfl (k := i) (by simp [HFI.out.2.2]; exact hi)
  obtain ⟨bn, hbn⟩ := ho.addr 0 rfl (k := i) (by simp [IN.out.ldb]; exact hi)
  obtain ⟨own, hown⟩ : ∃ own : Nat → BitVec 64, (fun i => ownL.getD i 0) = own := ⟨_, rfl⟩
  rw [hown] at IH HD ⊢
  have HOW := Lib.hid hown
  clear hown
  have qC := (ho.var 3 rfl).1
  have qI := Tree.iv_cell ho (i := i) (by rw [IN.out.liv]; exact hi)
  have ho' : Owns w w0.heap.size ([⟨42, t.nb, t.n, t.n, t.db.map clos⟩, ⟨40, some ⟨t.vN, 0, none⟩, 1, 1, [.slice t.nb t.n t.n]⟩] ++ ⟨48, some ⟨bc, 0, none⟩, t.n, t.n, U s.2⟩ :: (⟨41, some ⟨t.vC, 0, none⟩, 1, 1, [.slice t.cb t.n t.n]⟩ ::
    ⟨3, oa, s.1.length, oc, NI s.1⟩ :: ⟨28, some ⟨t.vO, 0, none⟩, 1, 1, [.slice oa s.1.length oc]⟩ :: ⟨23, some ⟨t.vS, 0, none⟩, 1, 1, [.slice t.a1 t.n t.c1]⟩ :: ⟨26, some ⟨t.vP, 0, none⟩, 1, 1, [.slice t.a0 t.np t.c0]⟩ :: t.rest D)) := by
    have := ho
    unfold Tree.rows at this
    rw [hbc] at this ⊢
    exact this
  have HA := Lib.hid (add1_own ho' (j := i) (by rw [HFI.out.2.2]; exact hi))
  have HB := Lib.hid hb
  clear ho ho' hb
  unfold Tree.cap
  go_enter Try.func20, Try.ntmps20
  go_wp2_with fail
  refine HA.out.mono ?_
  rintro e w1 ⟨rfl, ho1, hb1⟩
  have HO1 : Hid (Owns w1 w0.heap.size (t.rows (midway ps f i 0 s).1 (midway ps f i 0 s).2 oa oc D)) := by
    refine Lib.hid ?_
    unfold Tree.rows
    rw [midway_zero, hbc]
    rw [hbc] at ho1
    exact ho1
  have HB1 := Lib.hid hb1
  have HBW := Lib.hid (HB.out.trans hb1)
  have hs1 := HBW.out.size
  have qI := Tree.iv_cell HO1.out (i := i) (by rw [IN.out.liv]; exact hi)
  have qS := (HO1.out.var 6 rfl).1
  have qP := (HO1.out.var 7 rfl).1
  obtain ⟨b1, o1, hb1', q1⟩ := at_u64 IN.out.rown HBW.out (Nat.le_refl _) (k := i) (by rw [IN.out.lown]; exact hi)
  obtain ⟨v0, hv0⟩ : ∃ v0, ownL[i]'(by rw [IN.out.lown]; exact hi) = v0 := ⟨_, rfl⟩
  rw [hv0] at q1
  have HV0 : Hid (sumTo ps own i 0 = v0) := by
    refine Lib.hid ?_
    unfold sumTo
    rw [← HOW.out, ← hv0]
    simp [IN.out.lown, hi]
  obtain ⟨b0, o0, pa, pc, hb0, hlt0, q0, hrp, hpl⟩ := IN.out.par i hi
  have q0' : w1.cell? ⟨b0, o0 + i, none⟩ = some (.slice pa (ps i).length pc) := (HBW.out.cell (p := ⟨b0, o0 + i, none⟩) hlt0).trans q0
  have HRP := Lib.hid hrp
  obtain ⟨m, hm⟩ : ∃ m, (ps i).length = m := ⟨_, rfl⟩
  rw [hm] at q0' hpl
  have HM := Lib.hid hm
  clear ho1 hb1 HA hv0 q0 hrp hm qC hlt0
  have hin : (i : Int) < (t.np : Int) := by omega
  go_wp2
  go_loopw [23, 7] (fun c v wr => ∃ (j : Nat) (oa : Option Addr) (oc : Nat), j ≤ m ∧ c = .int .i64 j ∧ v = .int .u64 ((sumTo ps own i j).toNat : Int) ∧ Owns wr w0.heap.size (t.rows (midway ps f i j s).1 (midway ps f i j s).2 oa oc (fun k => if k < i then t.stat ps own (midway ps f i j s).1 k else D k)) ∧ Below w0.heap.size w1 wr) (fun c _ _ => m - (intOf c).toNat)
  case atStart =>
    refine ⟨0, oa, oc, Nat.zero_le _, rfl, by rw [HV0.out], ?_, Below.refl _ _⟩
    have e : (fun k => if k < i then t.stat ps own (midway ps f i 0 s).1 k else D k) = D := by
      funext k
      by_cases hk : k < i
      · rw [if_pos hk, HD.out k hk, midway_zero]
      · rw [if_neg hk]
    rw [e]
    exact HO1.out
  case round =>
    clear HO1 qI qS qP q1 q0' HV0
    obtain ⟨j, oa, oc, hj, rfl, rfl, ho, hb⟩ := hrel
    have hsz2 := hb.size
    have HBR := Lib.hid (HBW.out.trans hb)
    by_cases hlt : j < m
    · have lj : j < (ps i).length := by rw [HM.out]; exact hlt
      obtain ⟨p, hp⟩ : ∃ p, (ps i)[j] = p := ⟨_, rfl⟩
      have hpi : p < i := by rw [← hp]; exact IN.out.less i _ (List.getElem_mem lj)
      obtain ⟨bp, op, rfl, qp⟩ := at_int HRP.out HBR.out (Nat.le_refl _) (k := j) lj
      rw [hp] at qp
      have qN := (ho.var 1 rfl).1
      have lp : p < t.db.length := by rw [IN.out.ldb]; omega
      have qF : wr.cell? ⟨bn, p, none⟩ = some (clos (t.dbb p)) := by
        have h1 := ho.rd (r := ⟨42, t.nb, t.n, t.n, t.db.map clos⟩) (List.mem_cons_self ..)
        obtain ⟨b', o', he, hc⟩ := h1.1 p (by simpa using lp)
        have hz := (h1.2.2 b' o' he).1
        subst hz
        simp only at he
        rw [hbn] at he
        simp only [Option.some.injEq, Addr.mk.injEq, and_true] at he
        subst he
        rw [Nat.zero_add] at hc
        rw [hc]
        simp [lp, Tree.dbb]
      have HFM := Lib.hid (midway_fine (f := f) (s := s) IN.out.less hi HFI.out (show j ≤ (ps i).length by omega))
      have HC := Lib.hid (IH.out p (by omega) (by omega) wr (midway ps f i j s) _ oa oc (fun k hk => by rw [if_pos (show k < i by omega)]) HFM.out ho HBR.out)
      have HMS : Hid (midway ps f i (j + 1) s = runF ps f p (midway ps f i j s)) := midway_succ lj hp
      have HSS : Hid (sumTo ps own i (j + 1) = sumTo ps own i j + val ps own p) := sumTo_succ lj hp
      obtain ⟨va, hva⟩ : ∃ va, sumTo ps own i j = va := ⟨_, rfl⟩
      obtain ⟨vp, hvp⟩ : ∃ vp, val ps own p = vp := ⟨_, rfl⟩
      obtain ⟨z, hz⟩ : ∃ z, va + vp = z := ⟨_, rfl⟩
      have hop : IntKind.u64.wrap ((va.toNat : Int) + (vp.toNat : Int)) = (z.toNat : Int) := by rw [u64_add, hz]
      rw [hva, hvp, hz] at HSS
      rw [hva]
      have HVP := Lib.hid hvp
      have HBj := Lib.hid hb
      clear ho hb hva hvp hz hp
      unfold clos at qF
      go_wp2_with fail
      refine HC.out.mono ?_
      rintro e w2 ⟨rfl, oa', oc', ho2, hb2⟩
      rw [HVP.out]
      have HR : Hid (Owns w2 w0.heap.size (t.rows (midway ps f i (j + 1) s).1 (midway ps f i (j + 1) s).2 oa' oc' (fun k => if k < i then t.stat ps own (midway ps f i (j + 1) s).1 k else D k))) := by
        refine Lib.hid ?_
        rw [HMS.out]
        have e : (fun k => if k < i then t.stat ps own (runF ps f p (midway ps f i j s)).1 k else D k) = (fun k => if k ≤ p then t.stat ps own (runF ps f p (midway ps f i j s)).1 k else (fun k => if k < i then t.stat ps own (midway ps f i j s).1 k else D k) k) := by
          funext k
          by_cases h1 : k ≤ p
          · rw [if_pos h1, if_pos (by omega)]
          · rw [if_neg h1]
            by_cases h2 : k < i
            · simp only [if_pos h2]
              unfold Tree.stat
              have : (k ∈ (runF ps f p (midway ps f i j s)).1) = (k ∈ (midway ps f i j s).1) := propext (runF_gt IN.out.less f p k _ (by omega))
              simp only [this]
            · simp only [if_neg h2]
        rw [e]
        exact ho2
      have HT := Lib.hid (HBj.out.trans hb2)
      clear ho2 hb2 HC qF qN qp
      go_wp2
      go_roundw
      case rel => exact ⟨j + 1, oa', oc', by omega, by go_num, by rw [HSS.out], HR.out, HT.out⟩
      case measure => simp [intOf]; omega
    · obtain rfl : j = m := by omega
      have HFM := Lib.hid (midway_fine (f := f) (s := s) IN.out.less hi HFI.out (show j ≤ (ps i).length by rw [HM.out]; omega))
      have HEND : Hid (runF ps (f + 1) i s = ((midway ps f i j s).1 ++ [i], (midway ps f i j s).2)) := by have := midway_all (ps := ps) (f := f) HNI.out; rw [HM.out] at this; exact this
      have HSUM : Hid (sumTo ps own i j = val ps own i) := by
        refine Lib.hid ?_
        rw [val_eq IN.out.less]
        unfold sumTo
        rw [List.take_of_length_le (by rw [HM.out]; omega)]
      have hlen : (midway ps f i j s).1.length ≤ 1048576 := by have := nodup_le HFM.out.1 HFM.out.2.1; omega
      obtain ⟨T, hT⟩ : ∃ T, midway ps f i j s = T := ⟨_, rfl⟩
      rw [hT] at ho HEND hlen
      have qO := (ho.var 5 rfl)
      have qI := Tree.iv_cell ho (i := i) (by rw [IN.out.liv]; exact hi)
      rw [HSUM.out]
      have HO := Lib.hid ho; have HBj := Lib.hid hb
      obtain ⟨qO, zO⟩ := qO
      clear ho hb hT HFM
      go_wp2_with (at_builtin; refine app3s [_, _, _, _] (⟨28, some ⟨t.vO, 0, none⟩, 1, 1, [.slice oa T.1.length oc]⟩ :: ⟨23, some ⟨t.vS, 0, none⟩, 1, 1, [.slice t.a1 t.n t.c1]⟩ :: ⟨26, some ⟨t.vP, 0, none⟩, 1, 1, [.slice t.a0 t.np t.c0]⟩ :: t.rest _) (.tmp 35) (.tmp 37) rfl rfl wr.heap.size rfl rfl rfl HO.out rfl (by omega) (by omega) ?_)
      intro oa' oc' w2 ho2 hb2 hs2
      have qO2 := ho2.var 5 rfl
      obtain ⟨ho3, hb3⟩ := Owns.stored (p := [_, _, _, _, _]) ho2 rfl 0 (.slice oa' (T.1.length + 1) oc')
      have HR : Hid (Owns (w2.setCell ⟨t.vO, 0, none⟩ (.slice oa' (T.1.length + 1) oc')) w0.heap.size (t.rows (runF ps (f + 1) i s).1 (runF ps (f + 1) i s).2 oa' oc' (fun k => if k < i then t.stat ps own (runF ps (f + 1) i s).1 k else D k))) := by
        refine Lib.hid ?_
        rw [HEND.out]
        have e : (fun k => if k < i then t.stat ps own (T.1 ++ [i]) k else D k) = (fun k => if k < i then t.stat ps own T.1 k else D k) := by
          funext k
          by_cases hk : k < i
          · rw [if_pos hk, if_pos hk, Tree.stat_snoc hk]
          · rw [if_neg hk, if_neg hk]
        simp only [e]
        unfold Tree.rows
        simp only [List.length_append, List.length_cons, List.length_nil, Nat.zero_add, NI_snoc]
        rw [hbn, hbc, hb1', hb0]
        exact ho3
      have HT := Lib.hid (HBj.out.trans (hb2.trans hb3))
      obtain ⟨qO2, zO2⟩ := qO2
      clear ho2 ho3 hb2 hb3 HO
      go_wp2
      go_ret
      exact ⟨rfl, oa', oc', HR.out, HB1.out.trans HT.out⟩
end Go.Proofs.Ytjjmjjbeecmmlad
