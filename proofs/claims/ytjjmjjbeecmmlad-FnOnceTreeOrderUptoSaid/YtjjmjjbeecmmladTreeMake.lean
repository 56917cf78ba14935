/-
  The contract of impl.OnceTree.
-/
import Derived.Test.YtjjmjjbeecmmladTreeNode
import Derived.Deep.RegionWith
import Derived.Deep.RegionHeld3
import Derived.Laws.NewBlocks
namespace Go.Proofs.Ytjjmjjbeecmmlad
set_option linter.unusedVariables false
set_option linter.unusedSimpArgs false
open Go.RowKit

theorem info42 : (Try.prog.info? 42).map (fun i => (i.zero, i.size, i.bytes)) = some (some .nilFunc, 1, 8) := by kernel_rfl

theorem made_u64 (n : Nat) : (madeCells #[.int .u64 0] n).toList = U (List.replicate n 0) := by
  simp only [madeCells, U]
  rw [List.map_replicate]
  apply List.ext_getElem
  · simp
  · intro i h1 h2
    simp [Nat.mod_one]
theorem made_nil (n : Nat) : (madeCells #[.nilFunc] n).toList = List.replicate n .nilFunc := by
  simp only [madeCells]
  apply List.ext_getElem
  · simp
  · intro i h1 h2
    simp [Nat.mod_one]

/-- A slice made by 'make', beside rows of the call's own. -/
theorem Owns.makes {wp w1 : World} {B : Nat} {L : List Row} {e : TypeId} {n b : Nat} {xs : List Value} (h : Owns wp B L) (hB : B ≤ wp.heap.size) (hb : wp.heap.size = b) (ho : w1.ownsRow b e 1 (.slice (some ⟨b, 0, none⟩) n n) n xs) (hg : wp.grownBy w1 none) :
    Owns w1 B (L ++ [⟨e, some ⟨b, 0, none⟩, n, n, xs⟩]) ∧ Below wp.heap.size wp w1 := by
  subst hb
  have hbl := (Below.refl wp.heap.size wp).grown hg (Nat.le_refl _) (by simp)
  exact ⟨h.more hbl ⟨by intro r hr; simp at hr; subst hr; exact ho, by simp⟩ hB, hbl⟩

def mkTree (n np c0 c1 : Nat) (a0 a1 : Option Addr) (bN bC vN vC vO vS vP : Nat) (iv db : List Nat) : Tree :=
  { n := n, nb := some ⟨bN, 0, none⟩, cb := some ⟨bC, 0, none⟩, vN := vN, vC := vC, vO := vO, vS := vS, vP := vP, iv := iv, db := db, a0 := a0, np := np, c0 := c0, a1 := a1, c1 := c1, ex := [] }

/-- The rows when the first k nodes have been made. -/
def Tree.making (t : Tree) (oa : Option Addr) (k : Nat) : List Row :=
  ⟨42, t.nb, t.n, t.n, t.db.map clos ++ List.replicate (t.n - k) .nilFunc⟩ :: ⟨40, some ⟨t.vN, 0, none⟩, 1, 1, [.slice t.nb t.n t.n]⟩ ::
  ⟨48, t.cb, t.n, t.n, U (List.replicate t.n 0)⟩ :: ⟨41, some ⟨t.vC, 0, none⟩, 1, 1, [.slice t.cb t.n t.n]⟩ ::
  ⟨3, oa, 0, 0, []⟩ :: ⟨28, some ⟨t.vO, 0, none⟩, 1, 1, [.slice oa 0 0]⟩ ::
  ⟨23, some ⟨t.vS, 0, none⟩, 1, 1, [.slice t.a1 t.n t.c1]⟩ :: ⟨26, some ⟨t.vP, 0, none⟩, 1, 1, [.slice t.a0 t.np t.c0]⟩ :: t.rest (fun i => Fresh (t.fv i) 0)

def Tree.withEx (t : Tree) (X : List Row) : Tree := { t with ex := X }

/-- The rows without those that lie beside. -/
def Tree.base (t : Tree) (ord : List Nat) (cnt : List (BitVec 64)) (oa : Option Addr) (oc : Nat) (D : Nat → List Value) : List Row :=
  ⟨42, t.nb, t.n, t.n, t.db.map clos⟩ :: ⟨40, some ⟨t.vN, 0, none⟩, 1, 1, [.slice t.nb t.n t.n]⟩ ::
  ⟨48, t.cb, t.n, t.n, U cnt⟩ :: ⟨41, some ⟨t.vC, 0, none⟩, 1, 1, [.slice t.cb t.n t.n]⟩ ::
  ⟨3, oa, ord.length, oc, NI ord⟩ :: ⟨28, some ⟨t.vO, 0, none⟩, 1, 1, [.slice oa ord.length oc]⟩ ::
  ⟨23, some ⟨t.vS, 0, none⟩, 1, 1, [.slice t.a1 t.n t.c1]⟩ :: ⟨26, some ⟨t.vP, 0, none⟩, 1, 1, [.slice t.a0 t.np t.c0]⟩ :: (t.ivs ++ t.ds D)

theorem Tree.base_rows {t : Tree} {ord : List Nat} {cnt : List (BitVec 64)} {oa : Option Addr} {oc : Nat} {D : Nat → List Value} {X : List Row} : (t.withEx X).rows ord cnt oa oc D = t.base ord cnt oa oc D ++ X := by
  unfold Tree.rows Tree.base Tree.rest
  simp only [List.cons_append, List.append_assoc]
  rfl

theorem TreeIn.withEx {t : Tree} {ps : Nat → List Nat} {ownL : List (BitVec 64)} {w0 : World} (h : TreeIn t ps ownL w0) (X : List Row) : TreeIn (t.withEx X) ps ownL w0 :=
  ⟨h.n12, h.lown, h.liv, h.ldb, h.lnp, h.bnp, h.rown, h.par, h.less⟩

def NodeCalled (t : Tree) (ps : Nat → List Nat) (own : Nat → BitVec 64) (B : Nat) (w : World) (i : Nat) (s : List Nat × List (BitVec 64)) (X : List Row) (e : Ending) (w' : World) : Prop :=
  e = .returned (.int .u64 ((val ps own i).toNat : Int)) ∧ ∃ oa oc, Owns w' B (t.base s.1 s.2 oa oc (t.stat ps own s.1) ++ X) ∧ Below B w w'

/-- A call of node i, with other rows beside. -/
theorem node_call (t : Tree) (ps : Nat → List Nat) (ownL : List (BitVec 64)) (own : Nat → BitVec 64) (hown : (fun i => ownL.getD i 0) = own) (w0 : World) (hin : TreeIn t ps ownL w0) (X : List Row) (i : Nat) (hi : i < t.n) (w : World) (s : List Nat × List (BitVec 64)) (oa : Option Addr) (oc : Nat) (hf : Fine t.n s)
    (ho : Owns w w0.heap.size (t.base s.1 s.2 oa oc (t.stat ps own s.1) ++ X)) (hb : Below w0.heap.size w0 w) :
    Calls Try.prog 23 #[ptr (t.dbb i)] w (NodeCalled t ps own w0.heap.size w i (runF ps t.n i s) X) := by
  subst hown
  rw [← Tree.base_rows] at ho
  refine (nodes_ok (t.withEx X) ps ownL w0 (hin.withEx X) t.n i hi hi w s _ oa oc (fun j _ => rfl) hf ho hb).mono ?_
  rintro e w' ⟨rfl, oa', oc', ho', hb'⟩
  refine ⟨rfl, oa', oc', ?_, hb'⟩
  rw [← Tree.base_rows]
  have e : (fun j => if j ≤ i then (t.withEx X).stat ps (fun i => ownL.getD i 0) (runF ps t.n i s).1 j else (t.withEx X).stat ps (fun i => ownL.getD i 0) s.1 j) = t.stat ps (fun i => ownL.getD i 0) (runF ps t.n i s).1 := by
    funext j
    by_cases hj : j ≤ i
    · rw [if_pos hj]
      rfl
    · rw [if_neg hj]
      unfold Tree.stat
      have : (j ∈ (runF ps t.n i s).1) = (j ∈ s.1) := propext (runF_gt hin.less t.n i j _ (by omega))
      simp only [this]
      rfl
  rw [e] at ho'
  exact ho'

/-- What OnceTree leaves. -/
def TreeRan (w : World) (n m : Nat) (res : List (BitVec 64)) (s : List Nat × List (BitVec 64)) (e : Ending) (w' : World) : Prop :=
  ∃ ra rc oa oc ua uc, e = .returned (.tuple #[.slice ra m rc, .slice oa s.1.length oc, .slice ua n uc]) ∧ Owns w' w.heap.size [⟨25, ra, m, rc, U res⟩, ⟨3, oa, s.1.length, oc, NI s.1⟩, ⟨25, ua, n, uc, U s.2⟩] ∧ Below w.heap.size w w'

/-- The state behind the first j calls. -/
def after (ps : Nat → List Nat) (n : Nat) (calls : List Nat) (j : Nat) : List Nat × List (BitVec 64) := (calls.take j).foldl (fun s i => runF ps n i s) ([], List.replicate n 0)
theorem after_succ {ps : Nat → List Nat} {n : Nat} {calls : List Nat} {j i : Nat} (h : j < calls.length) (hi : calls[j] = i) : after ps n calls (j + 1) = runF ps n i (after ps n calls j) := by
  unfold after
  rw [List.take_succ_eq_append_getElem h, List.foldl_append, hi]
  rfl
theorem after_fine {ps : Nat → List Nat} {n : Nat} {calls : List Nat} (less : ∀ i, ∀ p ∈ ps i, p < i) (hc : ∀ i ∈ calls, i < n) : ∀ j, j ≤ calls.length → Fine n (after ps n calls j) := by
  intro j
  induction j with
  | zero => intro _; exact ⟨by simp [after], by simp [after], by simp [after]⟩
  | succ j ih =>
    intro hj
    rw [after_succ (by omega) rfl]
    exact runF_fine less _ _ _ (hc _ (List.getElem_mem _)) (ih (by omega))

theorem making_step {n np c0 c1 : Nat} {a0 a1 oa : Option Addr} {bN bC vN vC vO vS vP : Nat} {iv db : List Nat} {k x y : Nat} {w : World} {B : Nat} {o1 : Obj} (hk : k < n) (hiv : iv.length = k) (hdb : db.length = k) (hB : B ≤ w.heap.size)
    (ho : Owns w B ((mkTree n np c0 c1 a0 a1 bN bC vN vC vO vS vP iv db).making oa k)) (hx : w.heap.size = x) (hy : x + 1 = y) :
    Owns (((w.alloc (.cells #[.int .i64 (k : Int)] 3)).alloc (.cells (Fresh (.func (.func 20) #[] #[ptr vC, ptr x, ptr vS, ptr vP, ptr vN, ptr vO]) 0).toArray 60)).setCell ⟨bN, k, none⟩ (clos y)) B
      ((mkTree n np c0 c1 a0 a1 bN bC vN vC vO vS vP (iv ++ [x]) (db ++ [y])).making oa (k + 1)) := by
  subst hx hy
  have h1 := ho.made hB 3 #[.int .i64 (k : Int)] (by simp [maxLen])
  have h2 := h1.made (by simp; omega) 60 (Fresh (.func (.func 20) #[] #[ptr vC, ptr w.heap.size, ptr vS, ptr vP, ptr vN, ptr vO]) 0).toArray (by simp [maxLen, Fresh])
  have h3 := (Owns.put (p := []) (b := bN) h2 k (clos (w.heap.size + 1))).1
  refine h3.perm ?_
  have eN : (db.map clos ++ List.replicate (n - k) Value.nilFunc).set k (clos (w.heap.size + 1)) = (db ++ [w.heap.size + 1]).map clos ++ List.replicate (n - (k + 1)) .nilFunc := by
    rw [List.set_append_right _ _ (by simp [hdb])]
    simp only [List.length_map, hdb, Nat.sub_self, List.map_append, List.map_cons, List.map_nil, List.append_assoc]
    congr 1
    rw [show n - k = (n - (k + 1)) + 1 by omega, List.replicate_succ]
    rfl
  have eI : (mkTree n np c0 c1 a0 a1 bN bC vN vC vO vS vP (iv ++ [w.heap.size]) (db ++ [w.heap.size + 1])).ivs = (mkTree n np c0 c1 a0 a1 bN bC vN vC vO vS vP iv db).ivs ++ [⟨3, some ⟨w.heap.size, 0, none⟩, 1, 1, [.int .i64 (k : Int)]⟩] := by
    unfold Tree.ivs mkTree
    simp [List.mapIdx_append, hiv]
  have eD : (mkTree n np c0 c1 a0 a1 bN bC vN vC vO vS vP (iv ++ [w.heap.size]) (db ++ [w.heap.size + 1])).ds (fun i => Fresh ((mkTree n np c0 c1 a0 a1 bN bC vN vC vO vS vP (iv ++ [w.heap.size]) (db ++ [w.heap.size + 1])).fv i) 0) =
      (mkTree n np c0 c1 a0 a1 bN bC vN vC vO vS vP iv db).ds (fun i => Fresh ((mkTree n np c0 c1 a0 a1 bN bC vN vC vO vS vP iv db).fv i) 0) ++ [⟨60, some ⟨w.heap.size + 1, 0, none⟩, 7, 7, Fresh (.func (.func 20) #[] #[ptr vC, ptr w.heap.size, ptr vS, ptr vP, ptr vN, ptr vO]) 0⟩] := by
    unfold Tree.ds mkTree Tree.fv Tree.cap Tree.ivb
    simp only [List.mapIdx_append, hdb]
    congr 1
    · apply List.ext_getElem
      · simp
      · intro i hi1 hi2
        simp only [List.length_mapIdx] at hi1
        simp only [List.getElem_mapIdx]
        have : (iv ++ [w.heap.size]).getD i 0 = iv.getD i 0 := by simp [List.getElem?_append_left (show i < iv.length by omega)]
        rw [this]
    · simp [hiv]
  unfold Tree.making Tree.rest
  rw [eI, eD]
  have key : ∀ (H I D : List Row) (a b : Row), List.Perm (H ++ (I ++ D) ++ [a] ++ [b]) (H ++ ((I ++ [a]) ++ (D ++ [b]))) := by
    intro H I D a b
    simp only [List.append_assoc]
    exact (List.Perm.refl H).append ((List.Perm.refl I).append (List.perm_append_comm_assoc D [a] [b]))
  have hgoal := key [⟨42, some ⟨bN, 0, none⟩, n, n, (db ++ [w.heap.size + 1]).map clos ++ List.replicate (n - (k + 1)) .nilFunc⟩, ⟨40, some ⟨vN, 0, none⟩, 1, 1, [.slice (some ⟨bN, 0, none⟩) n n]⟩, ⟨48, some ⟨bC, 0, none⟩, n, n, U (List.replicate n 0)⟩, ⟨41, some ⟨vC, 0, none⟩, 1, 1, [.slice (some ⟨bC, 0, none⟩) n n]⟩,
    ⟨3, oa, 0, 0, []⟩, ⟨28, some ⟨vO, 0, none⟩, 1, 1, [.slice oa 0 0]⟩, ⟨23, some ⟨vS, 0, none⟩, 1, 1, [.slice a1 n c1]⟩, ⟨26, some ⟨vP, 0, none⟩, 1, 1, [.slice a0 np c0]⟩]
    (mkTree n np c0 c1 a0 a1 bN bC vN vC vO vS vP iv db).ivs ((mkTree n np c0 c1 a0 a1 bN bC vN vC vO vS vP iv db).ds (fun i => Fresh ((mkTree n np c0 c1 a0 a1 bN bC vN vC vO vS vP iv db).fv i) 0))
    ⟨3, some ⟨w.heap.size, 0, none⟩, 1, 1, [.int .i64 (k : Int)]⟩ ⟨60, some ⟨w.heap.size + 1, 0, none⟩, 7, 7, Fresh (.func (.func 20) #[] #[ptr vC, ptr w.heap.size, ptr vS, ptr vP, ptr vN, ptr vO]) 0⟩
  rw [← eN] at hgoal
  have eN2 := eN
  simp only [mkTree] at hgoal ⊢
  rw [← eN]
  simpa [World.size_alloc, Fresh] using hgoal

set_option maxRecDepth 100000 in
set_option maxHeartbeats 3200000 in
theorem onceTree_any (w : World) (a0 a1 a2 : Option Addr) (n np c0 c1 m c2 : Nat) (ps : Nat → List Nat) (ownL : List (BitVec 64)) (calls : List Nat)
    (hn : n ≤ 1048576) (hnp : n ≤ np) (bnp : np ≤ 17592186043904) (hlo : ownL.length = n) (hro : Rd w a1 (U ownL)) (less : ∀ i, ∀ p ∈ ps i, p < i)
    (par : ∀ i, i < n → ∃ b o pa pc, a0 = some ⟨b, o, none⟩ ∧ b < w.heap.size ∧ w.cell? ⟨b, o + i, none⟩ = some (.slice pa (ps i).length pc) ∧ Rd w pa (NI (ps i)) ∧ (ps i).length ≤ 1048576)
    (hlc : calls.length = m) (hm : m ≤ 17592186043904) (hrc : Rd w a2 (NI calls)) (hcn : ∀ i ∈ calls, i < n) :
    Calls Try.prog 12 #[.slice a0 np c0, .slice a1 n c1, .slice a2 m c2] w (TreeRan w n m (calls.map (val ps (fun i => ownL.getD i 0))) (calls.foldl (fun s i => runF ps n i s) ([], List.replicate n 0))) := by
  obtain ⟨i0, hi, hz0, hz1, hz2⟩ := info_parts info42
  obtain ⟨j0, hj, hy0, hy1, hy2⟩ := info_parts info61
  obtain ⟨own, hown⟩ : ∃ own : Nat → BitVec 64, (fun i => ownL.getD i 0) = own := ⟨_, rfl⟩
  obtain ⟨RES, hRES⟩ : ∃ R, calls.map (val ps own) = R := ⟨_, rfl⟩
  have HLR : Hid (RES.length = m) := by show _ = _; rw [← hRES, List.length_map, hlc]
  have HRR := Lib.hid hRES; have HOWN := Lib.hid hown
  clear hown hRES
  have HLO := Lib.hid hlo; have HRO := Lib.hid hro; have HLE := Lib.hid less; have HPA := Lib.hid par; have HLC := Lib.hid hlc; have HRC := Lib.hid hrc; have HCN := Lib.hid hcn
  clear hlo hro less par hlc hrc hcn
  have hmf : ∀ (fn : Fn) (first cap : Array Value) (w : World), (Instr.makeFunc fn first cap).run Try.prog w = .ok (.func fn first cap) w := fun _ _ _ _ => rfl
  have O0 := Lib.hid (((Owns.nil w w.heap.size).made (Nat.le_refl _) 26 #[.slice a0 np c0] (by simp [maxLen])).made (by simp) 23 #[.slice a1 n c1] (by simp [maxLen]))
  have B0 := Lib.hid (((Below.refl w.heap.size w).alloc (Nat.le_refl _) (.cells #[.slice a0 np c0] 26)).alloc (by simp) (.cells #[.slice a1 n c1] 23))
  go_enter Try.func12, Try.ntmps12
  go_wp2_with (at_make; refine wpList_make_full _ rfl _ _ 40 rfl (w.heap.size + 1 + 1) 42 i0 .nilFunc 1 Try.underlying40 hi hz0 hz1 .i64 .i64 _ _ n rfl rfl rfl rfl (by rw [hz2]; omega) (by simp only [maxLen]; omega) (by simp) ?_)
  intro w1 ho1 hg1
  rw [made_nil] at ho1
  obtain ⟨hoA, hbA⟩ := O0.out.makes (b := w.heap.size + 1 + 1) (by simp; omega) (by simp) ho1 hg1
  have hs1 : w.heap.size + 1 + 1 ≤ w1.heap.size := by have := hbA.size; simpa using this
  have O1 := Lib.hid (hoA.made (by omega) 40 #[.slice (some ⟨w.heap.size + 1 + 1, 0, none⟩) n n] (by simp [maxLen]))
  have B1 := Lib.hid ((B0.out.trans (hbA.mono (by simp; omega))).alloc (by omega) (.cells #[.slice (some ⟨w.heap.size + 1 + 1, 0, none⟩) n n] 40))
  have qS : (w1.alloc (.cells #[.slice (some ⟨w.heap.size + 1 + 1, 0, none⟩) n n] 40)).cell? ⟨w.heap.size + 1, 0, none⟩ = some (.slice a1 n c1) := by have := (O1.out.var 1 rfl).1; rw [World.size_alloc] at this; exact this
  clear ho1 hg1 hoA hbA O0 B0
  go_wp2_with (at_make; refine wpList_make_full _ rfl _ _ 41 rfl (w1.heap.size + 1) 48 j0 (.agg #[.int .u64 0]) 1 Try.underlying41 hj hy0 hy1 .i64 .i64 _ _ n rfl rfl rfl rfl (by rw [hy2]; omega) (by simp only [maxLen]; omega) (by simp) ?_)
  intro w2 ho2 hg2
  rw [made_u64] at ho2
  obtain ⟨hoB, hbB⟩ := O1.out.makes (b := w1.heap.size + 1) (by simp; omega) (by simp) ho2 hg2
  have hs2 : w1.heap.size + 1 ≤ w2.heap.size := by have := hbB.size; simpa using this
  have O2 := Lib.hid (((hoB.made (by omega) 41 #[.slice (some ⟨w1.heap.size + 1, 0, none⟩) n n] (by simp [maxLen])).made (by simp; omega) 3 #[] (by simp)).made (by simp; omega) 28 #[.slice (some ⟨w2.heap.size + 1, 0, none⟩) 0 0] (by simp [maxLen]))
  have B2 := Lib.hid ((((B1.out.trans (hbB.mono (by simp; omega))).alloc (by omega) (.cells #[.slice (some ⟨w1.heap.size + 1, 0, none⟩) n n] 41)).alloc (by simp; omega) (.cells #[] 3)).alloc (by simp; omega) (.cells #[.slice (some ⟨w2.heap.size + 1, 0, none⟩) 0 0] 28))
  have qS2 : (((w2.alloc (.cells #[.slice (some ⟨w1.heap.size + 1, 0, none⟩) n n] 41)).alloc (.cells #[] 3)).alloc (.cells #[.slice (some ⟨w2.heap.size + 1, 0, none⟩) 0 0] 28)).cell? ⟨w.heap.size + 1, 0, none⟩ = some (.slice a1 n c1) := by have := (O2.out.var 1 rfl).1; rw [World.size_alloc] at this; exact this
  clear ho2 hg2 hoB hbB O1 B1 qS
  go_wp2
  go_loopw [27] (fun i wr => ∃ (k : Nat) (iv db : List Nat), k ≤ n ∧ i = .int .i64 k ∧ iv.length = k ∧ db.length = k ∧ Owns wr w.heap.size ((mkTree n np c0 c1 a0 a1 (w.heap.size + 1 + 1) (w1.heap.size + 1) w1.heap.size w2.heap.size (w2.heap.size + 1 + 1) (w.heap.size + 1) w.heap.size iv db).making (some ⟨w2.heap.size + 1, 0, none⟩) k) ∧ Below w.heap.size w wr ∧ w2.heap.size + 1 + 1 < wr.heap.size) (fun i _ => n - (intOf i).toNat)
  case atStart =>
    refine ⟨0, [], [], Nat.zero_le _, rfl, rfl, rfl, ?_, B2.out, by simp⟩
    have h1 := O2.out
    simp only [List.nil_append, List.cons_append, World.size_alloc, List.size_toArray, List.length_cons, List.length_nil, Nat.zero_add] at h1
    refine h1.perm ?_
    have key : ∀ (a b c d e f g h : Row), List.Perm [a, b, c, d, e, f, g, h] [c, d, e, f, g, h, b, a] := fun a b c d e f g h =>
      (List.perm_append_comm (l₁ := [a, b]) (l₂ := [c, d, e, f, g, h])).trans ((List.Perm.refl [c, d, e, f, g, h]).append (List.Perm.swap b a []))
    simpa [Tree.making, Tree.rest, Tree.ivs, Tree.ds, mkTree] using key _ _ _ _ _ _ _ _
  case round =>
    clear O2 B2 qS2
    obtain ⟨k, iv, db, hk, rfl, hliv, hldb, ho, hb, hbig⟩ := hrel
    have hsz := hb.size
    by_cases hlt : k < n
    · obtain ⟨t, ht⟩ : ∃ t, (mkTree n np c0 c1 a0 a1 (w.heap.size + 1 + 1) (w1.heap.size + 1) w1.heap.size w2.heap.size (w2.heap.size + 1 + 1) (w.heap.size + 1) w.heap.size iv db) = t := ⟨_, rfl⟩
      rw [ht] at ho
      have htn : t.n = n := by rw [← ht]; rfl
      have qN : wr.cell? ⟨w1.heap.size, 0, none⟩ = some (.slice (some ⟨w.heap.size + 1 + 1, 0, none⟩) n n) := by have := (ho.var 1 rfl).1; rw [← ht] at this; exact this
      have l1 : w1.heap.size < wr.heap.size := by omega
      have l2 : w.heap.size + 1 + 1 < wr.heap.size := by omega
      have qN1 : (wr.alloc (.cells #[.int .i64 (k : Int)] 3)).cell? ⟨w1.heap.size, 0, none⟩ = some (.slice (some ⟨w.heap.size + 1 + 1, 0, none⟩) n n) := (World.cell?_alloc_past _ _ _ l1).trans qN
      have qN2 : ∀ o, ((wr.alloc (.cells #[.int .i64 (k : Int)] 3)).alloc o).cell? ⟨w1.heap.size, 0, none⟩ = some (.slice (some ⟨w.heap.size + 1 + 1, 0, none⟩) n n) := fun o => (World.cell?_alloc_past _ _ _ (by simp; omega)).trans qN1
      have qI1 : (wr.alloc (.cells #[.int .i64 (k : Int)] 3)).cell? ⟨wr.heap.size, 0, none⟩ = some (.int .i64 (k : Int)) := by simp
      have qI2 : ∀ o, ((wr.alloc (.cells #[.int .i64 (k : Int)] 3)).alloc o).cell? ⟨wr.heap.size, 0, none⟩ = some (.int .i64 (k : Int)) := fun o => (World.cell?_alloc_past _ _ _ (by simp)).trans qI1
      have qX : wr.cell? ⟨w.heap.size + 1 + 1, k, none⟩ = some .nilFunc ∧ wr.frozen? ⟨w.heap.size + 1 + 1, k, none⟩ = false := by
        have h1 := ho
        rw [← ht] at h1
        refine h1.cellOf (e := 42) (n := n) (c := n) (xs := db.map clos ++ List.replicate (n - k) .nilFunc) (List.mem_cons_self ..) ?_
        rw [List.getElem?_append_right (by rw [List.length_map, hldb]; exact Nat.le_refl _), List.length_map, hldb, Nat.sub_self, List.getElem?_replicate, if_pos (by omega)]
      have qX2 : ∀ o, ((wr.alloc (.cells #[.int .i64 (k : Int)] 3)).alloc o).cell? ⟨w.heap.size + 1 + 1, k, none⟩ = some .nilFunc := fun o => (World.cell?_alloc_past _ _ _ (by simp; omega)).trans ((World.cell?_alloc_past _ _ _ l2).trans qX.1)
      have fX2 : ∀ o, ((wr.alloc (.cells #[.int .i64 (k : Int)] 3)).alloc o).frozen? ⟨w.heap.size + 1 + 1, k, none⟩ = false := fun o => (World.frozen?_alloc_past _ _ _ (by simp; omega)).trans ((World.frozen?_alloc_past _ _ _ l2).trans qX.2)
      have HO := Lib.hid ho; have HB := Lib.hid hb; have HT := Lib.hid ht; have HTN := Lib.hid htn; have HLI := Lib.hid hliv; have HLD := Lib.hid hldb
      have HSTEP := Lib.hid (making_step (o1 := .cells #[] 0) hlt hliv hldb hsz (by rw [ht]; exact ho) rfl rfl)
      have HBS := Lib.hid ((((hb.alloc hsz (.cells #[.int .i64 (k : Int)] 3)).alloc (by simp; omega) (.cells (Fresh (.func (.func 20) #[] #[ptr w2.heap.size, ptr wr.heap.size, ptr (w.heap.size + 1), ptr w.heap.size, ptr w1.heap.size, ptr (w2.heap.size + 1 + 1)]) 0).toArray 60))).setCell (p := ⟨w.heap.size + 1 + 1, k, none⟩) (by simp; omega) (clos (wr.heap.size + 1)))
      clear ho hb qX qN ht htn hliv hldb
      go_wp2
      go_region_with (go_at_call 19; refine (make_any _ _ _).mono ?_; rintro e w3 ⟨rfl, rfl⟩)
      all_goals
        go_wp2
        go_roundw
        case rel => exact ⟨k + 1, iv ++ [wr.heap.size], db ++ [wr.heap.size + 1], by omega, by go_num, by simp [HLI.out], by simp [HLD.out], HSTEP.out.drew, HBS.out.drew, by simp; omega⟩
        case measure => simp [intOf]; omega
    · have hkn : n = k := by omega
      subst hkn
      have HIN : Hid (TreeIn (mkTree n np c0 c1 a0 a1 (w.heap.size + 1 + 1) (w1.heap.size + 1) w1.heap.size w2.heap.size (w2.heap.size + 1 + 1) (w.heap.size + 1) w.heap.size iv db) ps ownL w) := Lib.hid ⟨hn, HLO.out, hliv, hldb, hnp, bnp, HRO.out, HPA.out, HLE.out⟩
      have ho0 : Owns wr w.heap.size ((mkTree n np c0 c1 a0 a1 (w.heap.size + 1 + 1) (w1.heap.size + 1) w1.heap.size w2.heap.size (w2.heap.size + 1 + 1) (w.heap.size + 1) w.heap.size iv db).base (after ps n calls 0).1 (after ps n calls 0).2 (some ⟨w2.heap.size + 1, 0, none⟩) 0 ((mkTree n np c0 c1 a0 a1 (w.heap.size + 1 + 1) (w1.heap.size + 1) w1.heap.size w2.heap.size (w2.heap.size + 1 + 1) (w.heap.size + 1) w.heap.size iv db).stat ps own (after ps n calls 0).1)) := by
        have h1 := ho
        unfold Tree.making Tree.rest at h1
        simp only [mkTree, Nat.sub_self, List.replicate_zero, List.append_nil] at h1
        have e : (mkTree n np c0 c1 a0 a1 (w.heap.size + 1 + 1) (w1.heap.size + 1) w1.heap.size w2.heap.size (w2.heap.size + 1 + 1) (w.heap.size + 1) w.heap.size iv db).stat ps own (after ps n calls 0).1 = fun i => Fresh ((mkTree n np c0 c1 a0 a1 (w.heap.size + 1 + 1) (w1.heap.size + 1) w1.heap.size w2.heap.size (w2.heap.size + 1 + 1) (w.heap.size + 1) w.heap.size iv db).fv i) 0 := by
          funext i
          unfold Tree.stat
          rw [if_neg (by simp [after])]
        rw [e]
        exact h1
      have O3 := Lib.hid ((ho0.made hsz 25 #[] (by simp)).made (by simp; omega) 25 #[] (by simp))
      have B3 := Lib.hid ((hb.alloc hsz (.cells #[] 25)).alloc (by simp; omega) (.cells #[] 25))
      obtain ⟨w3, rfl⟩ : ∃ w3 : World, w3 = wr := ⟨_, rfl⟩
      clear ho ho0 hb
      go_wp2
      go_loopw [40, 13] (fun i v wr => ∃ (j : Nat) (e0 : Option Addr) (g0 : Nat) (oa : Option Addr) (oc : Nat), j ≤ m ∧ i = .int .i64 j ∧ v = .slice e0 j g0 ∧ Owns wr w.heap.size ((mkTree n np c0 c1 a0 a1 (w.heap.size + 1 + 1) (w1.heap.size + 1) w1.heap.size w2.heap.size (w2.heap.size + 1 + 1) (w.heap.size + 1) w.heap.size iv db).base (after ps n calls j).1 (after ps n calls j).2 oa oc ((mkTree n np c0 c1 a0 a1 (w.heap.size + 1 + 1) (w1.heap.size + 1) w1.heap.size w2.heap.size (w2.heap.size + 1 + 1) (w.heap.size + 1) w.heap.size iv db).stat ps own (after ps n calls j).1) ++ [⟨25, e0, j, g0, U (RES.take j)⟩, ⟨25, some ⟨w3.heap.size + 1, 0, none⟩, 0, 0, []⟩]) ∧ Below w.heap.size w wr) (fun i _ _ => m - (intOf i).toNat)
      case atStart =>
        refine ⟨0, _, _, some ⟨w2.heap.size + 1, 0, none⟩, 0, Nat.zero_le _, rfl, rfl, ?_, B3.out⟩
        have h1 := O3.out
        simpa using h1
      case round =>
        clear O3 B3 hsz hbig
        obtain ⟨j, e0, g0, oa, oc, hj, rfl, rfl, ho, hb⟩ := hrel
        have hsz := hb.size
        by_cases hlj : j < m
        · have lj : j < calls.length := by rw [HLC.out]; exact hlj
          obtain ⟨i, hij⟩ : ∃ i, calls[j] = i := ⟨_, rfl⟩
          have hin : i < n := by rw [← hij]; exact HCN.out _ (List.getElem_mem lj)
          obtain ⟨b2, o2, rfl, q2⟩ := at_int HRC.out hb (Nat.le_refl _) (k := j) lj
          rw [hij] at q2
          have qN : wr.cell? ⟨w1.heap.size, 0, none⟩ = some (.slice (some ⟨w.heap.size + 1 + 1, 0, none⟩) n n) := (ho.var 1 rfl).1
          have ldb : i < db.length := by rw [hldb]; exact hin
          have qF : wr.cell? ⟨w.heap.size + 1 + 1, i, none⟩ = some (.func (.func 23) #[] #[ptr ((mkTree n np c0 c1 a0 a1 (w.heap.size + 1 + 1) (w1.heap.size + 1) w1.heap.size w2.heap.size (w2.heap.size + 1 + 1) (w.heap.size + 1) w.heap.size iv db).dbb i)]) := by
            refine (ho.cellOf (e := 42) (n := n) (c := n) (xs := db.map clos) (List.mem_cons_self ..) ?_).1
            simp [ldb, Tree.dbb, mkTree, clos]
          have HF := Lib.hid (after_fine HLE.out HCN.out j (by omega))
          have HC := Lib.hid (node_call _ ps ownL own HOWN.out w HIN.out _ i hin wr _ oa oc HF.out ho hb)
          have HS : Hid (after ps n calls (j + 1) = runF ps n i (after ps n calls j)) := after_succ lj hij
          have lr : j < RES.length := by rw [HLR.out]; exact hlj
          have HTK : Hid (U (RES.take (j + 1)) = U (RES.take j) ++ [.int .u64 ((val ps own i).toNat : Int)]) := by
            refine Lib.hid ?_
            rw [List.take_succ_eq_append_getElem lr, U_snoc]
            have : RES[j] = val ps own i := by simp only [← HRR.out, List.getElem_map, hij]
            rw [this]
          have HBj := Lib.hid hb
          obtain ⟨db0, hdb0⟩ : ∃ x, (mkTree n np c0 c1 a0 a1 (w.heap.size + 1 + 1) (w1.heap.size + 1) w1.heap.size w2.heap.size (w2.heap.size + 1 + 1) (w.heap.size + 1) w.heap.size iv db).dbb i = x := ⟨_, rfl⟩
          rw [hdb0] at qF HC
          obtain ⟨vi, hvi⟩ : ∃ x, val ps own i = x := ⟨_, rfl⟩
          clear ho hb hij hdb0
          go_wp2_with fail
          refine HC.out.mono ?_
          rintro e w4 ⟨rfl, oa', oc', ho4, hb4⟩
          rw [hvi]
          rw [hvi] at HTK
          have hs4 : wr.heap.size ≤ w4.heap.size := hb4.size
          have HO4 := Lib.hid ho4; have HB4 := Lib.hid (HBj.out.trans hb4)
          clear ho4 hb4 HC qF qN q2 hvi
          go_wp2_with (at_builtin; refine app30s _ [_] (.tmp 44) (.tmp 50) rfl rfl w4.heap.size rfl rfl rfl HO4.out rfl (by omega) (by omega) ?_)
          intro e1 g1 w5 ho5 hb5 hs5
          have HR : Hid (Owns w5 w.heap.size ((mkTree n np c0 c1 a0 a1 (w.heap.size + 1 + 1) (w1.heap.size + 1) w1.heap.size w2.heap.size (w2.heap.size + 1 + 1) (w.heap.size + 1) w.heap.size iv db).base (after ps n calls (j + 1)).1 (after ps n calls (j + 1)).2 oa' oc' ((mkTree n np c0 c1 a0 a1 (w.heap.size + 1 + 1) (w1.heap.size + 1) w1.heap.size w2.heap.size (w2.heap.size + 1 + 1) (w.heap.size + 1) w.heap.size iv db).stat ps own (after ps n calls (j + 1)).1) ++ [⟨25, e1, j + 1, g1, U (RES.take (j + 1))⟩, ⟨25, some ⟨w3.heap.size + 1, 0, none⟩, 0, 0, []⟩])) := by
            refine Lib.hid ?_
            rw [HS.out, HTK.out]
            exact ho5
          have HT := Lib.hid (HB4.out.trans hb5)
          clear ho5 hb5 HO4 HB4
          go_wp2
          go_roundw
          case rel => exact ⟨j + 1, e1, g1, oa', oc', by omega, by go_num, rfl, HR.out, HT.out⟩
          case measure => simp [intOf]; omega
        · obtain rfl : j = m := by omega
          have HF := Lib.hid (after_fine HLE.out HCN.out j (by rw [HLC.out]; omega))
          have eA : after ps n calls j = calls.foldl (fun s i => runF ps n i s) ([], List.replicate n 0) := by unfold after; rw [List.take_of_length_le (by rw [HLC.out]; omega)]
          rw [List.take_of_length_le (l := RES) (by rw [HLR.out]; omega), eA] at ho
          rw [eA] at HF
          clear eA
          obtain ⟨S, hS⟩ : ∃ S, calls.foldl (fun s i => runF ps n i s) ([], List.replicate n 0) = S := ⟨_, rfl⟩
          have HSS := Lib.hid hS
          rw [hS] at ho HF
          have qC : wr.cell? ⟨w2.heap.size, 0, none⟩ = some (.slice (some ⟨w1.heap.size + 1, 0, none⟩) n n) := (ho.var 3 rfl).1
          have HO := Lib.hid ho; have HB := Lib.hid hb
          obtain ⟨wo, rfl⟩ : ∃ wo : World, wo = wr := ⟨_, rfl⟩
          clear ho hb hS
          go_wp2
          go_loopw [55, 14] (fun i v wr => ∃ (r : Nat) (e1 : Option Addr) (g1 : Nat), r ≤ n ∧ i = .int .i64 r ∧ v = .slice e1 r g1 ∧ Owns wr w.heap.size ((mkTree n np c0 c1 a0 a1 (w.heap.size + 1 + 1) (w1.heap.size + 1) w1.heap.size w2.heap.size (w2.heap.size + 1 + 1) (w.heap.size + 1) w.heap.size iv db).base S.1 S.2 oa oc ((mkTree n np c0 c1 a0 a1 (w.heap.size + 1 + 1) (w1.heap.size + 1) w1.heap.size w2.heap.size (w2.heap.size + 1 + 1) (w.heap.size + 1) w.heap.size iv db).stat ps own S.1) ++ [⟨25, e0, j, g0, U RES⟩, ⟨25, e1, r, g1, U (S.2.take r)⟩]) ∧ Below w.heap.size w wr) (fun i _ _ => n - (intOf i).toNat)
          case atStart => exact ⟨0, _, _, Nat.zero_le _, rfl, rfl, by simpa using HO.out, HB.out⟩
          case round =>
            clear HO HB qC hsz
            obtain ⟨r, e1, g1, hr, rfl, rfl, ho, hb⟩ := hrel
            have hsz := hb.size
            by_cases hlr : r < n
            · have lr : r < S.2.length := by rw [HF.out.2.2]; exact hlr
              have qC : wr.cell? ⟨w2.heap.size, 0, none⟩ = some (.slice (some ⟨w1.heap.size + 1, 0, none⟩) n n) := (ho.var 3 rfl).1
              have HL := Lib.hid (load_own (p := [_, _]) (b := w1.heap.size + 1) (E := 48) (n := n) (c := n) ho lr _ rfl)
              have HO := Lib.hid ho; have HB := Lib.hid hb
              obtain ⟨x, hx⟩ : ∃ x, S.2.getD r 0 = x := ⟨_, rfl⟩
              rw [hx] at HL
              have HTK : Hid (U (S.2.take (r + 1)) = U (S.2.take r) ++ [.int .u64 (x.toNat : Int)]) := by
                refine Lib.hid ?_
                rw [List.take_succ_eq_append_getElem lr, U_snoc, ← hx]
                simp [lr]
              clear ho hb hx
              go_wp2_with fail
              refine HL.out.mono ?_
              rintro e w5 ⟨rfl, rfl⟩
              go_wp2_with (at_builtin; refine app30s _ [] (.tmp 58) (.tmp 63) rfl rfl wr.heap.size rfl rfl rfl (by have h1 := HO.out; rw [show ∀ (A : List Row) (x y : Row), A ++ [x, y] = (A ++ [x]) ++ y :: [] from fun _ _ _ => by simp] at h1; exact h1) rfl (by omega) (by omega) ?_)
              intro e2 g2 w6 ho6 hb6 hs6
              have HR : Hid (Owns w6 w.heap.size ((mkTree n np c0 c1 a0 a1 (w.heap.size + 1 + 1) (w1.heap.size + 1) w1.heap.size w2.heap.size (w2.heap.size + 1 + 1) (w.heap.size + 1) w.heap.size iv db).base S.1 S.2 oa oc ((mkTree n np c0 c1 a0 a1 (w.heap.size + 1 + 1) (w1.heap.size + 1) w1.heap.size w2.heap.size (w2.heap.size + 1 + 1) (w.heap.size + 1) w.heap.size iv db).stat ps own S.1) ++ [⟨25, e0, j, g0, U RES⟩, ⟨25, e2, r + 1, g2, U (S.2.take (r + 1))⟩])) := by
                refine Lib.hid ?_
                rw [HTK.out]
                simpa using ho6
              have HT := Lib.hid (HB.out.trans hb6)
              clear ho6 hb6 HO HB HL qC
              go_wp2
              go_roundw
              case rel => exact ⟨r + 1, e2, g2, by omega, by go_num, rfl, HR.out, HT.out⟩
              case measure => simp [intOf]; omega
            · have hrn : n = r := by omega
              subst hrn
              rw [List.take_of_length_le (by rw [HF.out.2.2]; omega)] at ho
              have qO : wr.cell? ⟨w2.heap.size + 1 + 1, 0, none⟩ = some (.slice oa S.1.length oc) := (ho.var 5 rfl).1
              have HO := Lib.hid (ho.drop (L' := [⟨3, oa, S.1.length, oc, NI S.1⟩, ⟨25, e0, j, g0, U RES⟩, ⟨25, e1, n, g1, U S.2⟩]) (by
                unfold Tree.base
                simp only [List.cons_append]
                refine .cons _ (.cons _ (.cons _ (.cons _ (.cons_cons _ (.cons _ (.cons _ (.cons _ ?_)))))))
                exact List.sublist_append_right _ _))
              have HB := Lib.hid hb
              clear ho hb
              go_wp2
              go_quiet (fail)
              go_wp2
              go_ret3
              rw [HSS.out, HOWN.out, HRR.out]
              exact ⟨e0, g0, oa, oc, e1, g1, rfl, Owns.drewN (HO.out.perm (List.Perm.swap _ _ _)) _, below_drewN HB.out _⟩
end Go.Proofs.Ytjjmjjbeecmmlad
