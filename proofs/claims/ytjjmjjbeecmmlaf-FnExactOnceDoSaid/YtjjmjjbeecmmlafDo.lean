/-
  The contract of impl.OnceDo.
-/
import Derived.Test.YtjjmjjbeecmmlafOnce
import Derived.Test.YtjjmjjbeecmmlafOFns
import Derived.Test.YtjjmjjbeecmmlafOnceSet
namespace Go.Proofs.Ytjjmjjbeecmmlaf
set_option linter.unusedVariables false
set_option linter.unusedSimpArgs false
open Go.RowKit

/-- The walk's law: a variable of a great type. -/
theorem wpList_alloc {P : Program} {w : World} {ops : Array Oper} {rest : List Oper} {o : Oper} {a : Act} {Q : Exit → Act → World → Prop} (hgd : o.guard = none) (t : TypeId) (ho : o.op = .alloc t) (i : TypeInfo) (z : Value) (cs : Array Value) (hi : P.info? t = some i) (hz : i.zero = some z) (hc : z.cells = cs)
    (h : wpList P ops Q rest (a.put o.dst (.pointer (some ⟨w.heap.size, 0, none⟩))) (w.alloc (.cells cs t))) : wpList P ops Q (o :: rest) a w := by
  subst hc
  refine wpList_plain hgd fun K hK => ?_
  unfold Oper.wp execOp
  have hti : (typeInfo t).run P w = .ok i w := by
    have := hi
    simp [typeInfo, this, go_sem]
  simp [ho, Instr.alloc, zeroValue, go_sem, hti, hz]
  have hcs : (match z with | .agg cs => cs | v => #[v]) = z.cells := by cases z <;> rfl
  have h' := hK _ _ h
  first
    | exact h'
    | (rw [← hcs] at h'; exact h')

/-- The cells of 256 Onces: those of D are done. -/
def onceCell (D : List Nat) (g : Nat) : List Value := [.int .u32 (if g ∈ D then 1 else 0), .int .i32 0, .int .u32 0]
def onceCells (D : List Nat) : List Value := (List.range 256).flatMap (onceCell D)
theorem flat_len {f : Nat → List Value} (hf : ∀ g, (f g).length = 3) : ∀ m, ((List.range m).flatMap f).length = 3 * m := by
  intro m
  induction m with
  | zero => simp
  | succ m ih => rw [List.range_succ, List.flatMap_append, List.length_append, ih]; simp [hf]; omega
theorem onceCells_length (D : List Nat) : (onceCells D).length = 768 := flat_len (fun _ => rfl) 256
theorem flat_three {f : Nat → List Value} (hf : ∀ g, (f g).length = 3) : ∀ (n g j : Nat), g < n → j < 3 → ((List.range n).flatMap f)[3 * g + j]? = (f g)[j]? := by
  intro n
  induction n with
  | zero => intro g j h; omega
  | succ n ih =>
    intro g j hg hj
    rw [List.range_succ, List.flatMap_append]
    have hl : ((List.range n).flatMap f).length = 3 * n := flat_len hf n
    by_cases h : g < n
    · rw [List.getElem?_append_left (by omega)]
      exact ih g j h hj
    · have hgn : g = n := by omega
      subst hgn
      rw [List.getElem?_append_right (by omega), hl]
      simp
theorem onceCells_get (D : List Nat) {g : Nat} (hg : g < 256) {j : Nat} (hj : j < 3) : (onceCells D)[3 * g + j]? = (onceCell D g)[j]? := flat_three (fun _ => rfl) 256 g j hg hj
theorem onceCells_set (D : List Nat) {g : Nat} (hg : g < 256) (E : List Nat) (hE : ∀ x, x ∈ E ↔ x ∈ D ∨ x = g) : (((onceCells D).set (3 * g + 1) (.int .i32 1)).set (3 * g) (.int .u32 1)).set (3 * g + 1) (.int .i32 0) = onceCells E := by
  apply List.ext_getElem?
  intro k
  by_cases hk : k < 768
  · obtain ⟨h, j, hj, rfl⟩ : ∃ h j, j < 3 ∧ k = 3 * h + j := ⟨k / 3, k % 3, Nat.mod_lt _ (by decide), by omega⟩
    have hh : h < 256 := by omega
    rw [onceCells_get E hh hj]
    have hl := onceCells_length D
    by_cases e : h = g
    · subst e
      have hE' : h ∈ E := (hE h).2 (.inr rfl)
      have hjj : j = 0 ∨ j = 1 ∨ j = 2 := by omega
      rcases hjj with rfl | rfl | rfl
      · show ((((onceCells D).set (3 * h + 1) (.int .i32 1)).set (3 * h) (.int .u32 1)).set (3 * h + 1) (.int .i32 0))[3 * h]? = _
        rw [List.getElem?_set_ne (by omega), List.getElem?_set_self (by simp; omega)]
        simp [onceCell, hE']
      · rw [List.getElem?_set_self (by simp; omega)]
        simp [onceCell]
      · rw [List.getElem?_set_ne (by omega), List.getElem?_set_ne (by omega), List.getElem?_set_ne (by omega), onceCells_get D hh hj]
        simp [onceCell]
    · rw [List.getElem?_set_ne (by omega), List.getElem?_set_ne (by omega), List.getElem?_set_ne (by omega), onceCells_get D hh hj]
      have : (h ∈ E) = (h ∈ D) := by rw [hE]; simp [e]
      simp only [onceCell, this]
  · rw [List.getElem?_eq_none (by simp [onceCells_length]; omega), List.getElem?_eq_none (by rw [onceCells_length]; omega)]

theorem info256 : (Try.prog.info? 64).map (fun i => (i.zero.map (fun z => z.cells.toList))) = some (some (onceCells [])) := by kernel_rfl

/-! Plain: the first call of each group alone. -/
def doStep (G : List Nat) (X : List (BitVec 64)) (t : List Nat × BitVec 64) (i : Nat) : List Nat × BitVec 64 := if G.getD i 0 ∈ t.1.map (G.getD · 0) then t else (t.1 ++ [i], t.2 + X.getD i 0)
def doAt (G : List Nat) (X : List (BitVec 64)) (k : Nat) : List Nat × BitVec 64 := (List.range k).foldl (doStep G X) ([], 0)
theorem doAt_succ {G : List Nat} {X : List (BitVec 64)} {k : Nat} : doAt G X (k + 1) = doStep G X (doAt G X k) k := by
  unfold doAt
  rw [List.range_succ, List.foldl_append]
  rfl
theorem doAt_short {G : List Nat} {X : List (BitVec 64)} : ∀ k, (doAt G X k).1.length ≤ k := by
  intro k
  induction k with
  | zero => simp [doAt]
  | succ k ih =>
    rw [doAt_succ]
    unfold doStep
    split
    · omega
    · simp; omega
def seenDo (G : List Nat) (X : List (BitVec 64)) (n : Nat) : List (BitVec 64) := (List.range n).map fun k => (doAt G X (k + 1)).2

/-- The groups' places, 0 to 255. -/
def places (gs : List (BitVec 8)) : List Nat := gs.map fun x => (x.toInt + 128).toNat
theorem places_get {gs : List (BitVec 8)} {i : Nat} (h : i < gs.length) : ((places gs).getD i 0 : Int) = gs[i].toInt + 128 ∧ (places gs).getD i 0 < 256 := by
  have e : (places gs).getD i 0 = (gs[i].toInt + 128).toNat := by simp [places, h]
  have h1 := BitVec.toInt_lt (x := gs[i])
  have h2 := BitVec.le_toInt (x := gs[i])
  rw [e]
  simp at h1 h2
  omega

theorem at_i8 {w0 w : World} {B : Nat} {a : Option Addr} {xs : List (BitVec 8)} (h : Rd w0 a (I8 xs)) (hb : Below B w0 w) (hB : w0.heap.size ≤ B) {k : Nat} (hk : k < xs.length) :
    ∃ b off, a = some ⟨b, off, none⟩ ∧ w.cell? ⟨b, off + k, none⟩ = some (.int .i8 xs[k].toInt) := by
  obtain ⟨b, off, he, hc⟩ := (h.mono hb hB) k (by simpa [I8] using hk)
  exact ⟨b, off, he, by rw [hc]; simp [I8, hk]⟩

def doBase (vN : Nat) (sl : Value) (vC bO vR : Nat) (ra : Option Addr) (rc : Nat) (C : List Value) (t : List Nat × BitVec 64) : List Row :=
  [⟨23, some ⟨vN, 0, none⟩, 1, 1, [sl]⟩, ⟨53, some ⟨vC, 0, none⟩, 1, 1, U [t.2]⟩, ⟨64, some ⟨bO, 0, none⟩, 768, 768, C⟩, ⟨3, ra, t.1.length, rc, NI t.1⟩, ⟨24, some ⟨vR, 0, none⟩, 1, 1, [.slice ra t.1.length rc]⟩]

/-- The rows: the numbers' variable, the counter, the Onces, those that ran, their variable, the round's index. -/
def doRows (vN : Nat) (sl : Value) (vC bO vR bi : Nat) (ra : Option Addr) (rc : Nat) (i : Nat) (C : List Value) (t : List Nat × BitVec 64) : List Row :=
  [⟨23, some ⟨vN, 0, none⟩, 1, 1, [sl]⟩, ⟨53, some ⟨vC, 0, none⟩, 1, 1, U [t.2]⟩, ⟨64, some ⟨bO, 0, none⟩, 768, 768, C⟩, ⟨3, ra, t.1.length, rc, NI t.1⟩, ⟨24, some ⟨vR, 0, none⟩, 1, 1, [.slice ra t.1.length rc]⟩, ⟨3, some ⟨bi, 0, none⟩, 1, 1, [.int .i64 (i : Int)]⟩]

theorem do_inv (vs : Array Value) (w : World) : (callFunc 30 vs).run Try.prog w = .ok (.enter 30 vs) w := by simp [go_sem]

set_option maxHeartbeats 1600000 in
set_option maxRecDepth 100000 in
theorem do_leaf (w : World) (B vN vC bO vR bi nn cn : Nat) (an ra : Option Addr) (rc i : Nat) (C : List Value) (t : List Nat × BitVec 64) (X : List (BitVec 64)) (Y : List Row) (hBw : B ≤ w.heap.size) (hnl : X.length = nn) (hbn : nn ≤ 17592186043904) (hin : i < nn) (htl : t.1.length ≤ i) (hrn : Rd w an (U X))
    (ho : Owns w B (doRows vN (.slice an nn cn) vC bO vR bi ra rc i C t ++ Y)) :
    Calls Try.prog 30 #[ptr vC, ptr vN, ptr bi, ptr vR] w (fun e w' => e = .returned (.tuple #[]) ∧ ∃ ra' rc', Owns w' B (doRows vN (.slice an nn cn) vC bO vR bi ra' rc' i C (t.1 ++ [i], t.2 + X.getD i 0) ++ Y) ∧ Below B w w') := by
  have lx : i < X.length := by rw [hnl]; exact hin
  obtain ⟨bn, on, rfl, qn⟩ := at_u64 hrn (Below.refl _ _) (Nat.le_refl _) lx
  have q1 := (ho.var 0 rfl).1
  have q2 := (ho.var 5 rfl).1
  obtain ⟨y, hy⟩ : ∃ y, X[i] = y := ⟨_, rfl⟩
  have hyg : X.getD i 0 = y := by rw [← hy]; simp [lx]
  rw [hy] at qn
  have HA := Lib.hid (add_own (p := [_]) (j := 0) (b := vC) (E := 53) (n := 1) (c := 1) (st := [t.2]) ho (by simp) y _ _ rfl rfl)
  rw [hyg]
  obtain ⟨z, hz⟩ : ∃ z, t.2 + y = z := ⟨_, rfl⟩
  have hz' : ([t.2] : List (BitVec 64)).getD 0 0 + y = z := hz
  rw [hz'] at HA
  rw [hz]
  obtain ⟨L, hL⟩ : ∃ L, t.1.length = L := ⟨_, rfl⟩
  rw [hL] at htl
  have HLL := Lib.hid hL
  clear ho hy hyg hz hz' hrn hL
  go_enter Try.func30, Try.ntmps30
  go_wp2_with fail
  refine HA.out.mono ?_
  rintro e w1 ⟨rfl, ho1, hb1⟩
  have HO1 : Hid (Owns w1 B (doRows vN (.slice (some ⟨bn, on, none⟩) nn cn) vC bO vR bi ra rc i C (t.1, z) ++ Y)) := Lib.hid ho1
  have r3 := (HO1.out.var 4 rfl).1
  have r2 := (HO1.out.var 5 rfl).1
  replace r3 : w1.cell? ⟨vR, 0, none⟩ = some (.slice ra t.1.length rc) := r3
  rw [HLL.out] at r3
  have hs1 := hb1.size
  have HB1 := Lib.hid hb1
  clear ho1 hb1 HA q1 q2 qn
  go_wp2_with (at_builtin; refine app3s [_, _, _] (⟨24, some ⟨vR, 0, none⟩, 1, 1, [.slice ra t.1.length rc]⟩ :: ⟨3, some ⟨bi, 0, none⟩, 1, 1, [.int .i64 (i : Int)]⟩ :: Y) (.tmp 9) (.tmp 11) rfl rfl w1.heap.size rfl rfl rfl (by have h1 := HO1.out; unfold doRows at h1; rw [HLL.out] at h1 ⊢; exact h1) rfl (by omega) (by omega) ?_)
  intro ra' rc' w2 ho2 hb2 hs2
  rw [HLL.out] at ho2
  have r4 := ho2.var 4 rfl
  obtain ⟨ho3, hb3⟩ := Owns.stored (p := [_, _, _, _]) ho2 rfl 0 (.slice ra' (L + 1) rc')
  have HR : Hid (Owns (w2.setCell ⟨vR, 0, none⟩ (.slice ra' (L + 1) rc')) B (doRows vN (.slice (some ⟨bn, on, none⟩) nn cn) vC bO vR bi ra' rc' i C (t.1 ++ [i], z) ++ Y)) := by
    refine Lib.hid ?_
    unfold doRows
    simp only [List.length_append, HLL.out, List.length_cons, List.length_nil, Nat.zero_add, NI_snoc]
    exact ho3
  have HT := Lib.hid (HB1.out.trans (hb2.trans hb3))
  obtain ⟨r4, z4⟩ := r4
  clear ho2 ho3 hb2 hb3 HO1 HB1 r2 r3
  go_wp2
  go_end0
  exact ⟨rfl, ra', rc', HR.out, HT.out⟩

theorem do_call (w : World) (B vN vC bO vR bi nn cn : Nat) (an ra : Option Addr) (rc i g : Nat) (G : List Nat) (t : List Nat × BitVec 64) (X : List (BitVec 64)) (Y : List Row) (hg : G.getD i 0 = g) (hg256 : g < 256) (hBw : B ≤ w.heap.size) (hnl : X.length = nn) (hbn : nn ≤ 17592186043904) (hin : i < nn) (htl : t.1.length ≤ i) (hrn : ∀ v : World, Below B w v → Rd v an (U X))
    (ho : Owns w B (doRows vN (.slice an nn cn) vC bO vR bi ra rc i (onceCells (t.1.map (G.getD · 0))) t ++ Y)) :
    Calls Try.prog 29 #[.pointer (some ⟨bO, g * 3, none⟩), .func (.func 30) #[] #[ptr vC, ptr vN, ptr bi, ptr vR]] w (fun e w' => e = .returned (.tuple #[]) ∧ ∃ ra' rc', Owns w' B (doRows vN (.slice an nn cn) vC bO vR bi ra' rc' i (onceCells ((doStep G X t i).1.map (G.getD · 0))) (doStep G X t i) ++ Y) ∧ Below B w w') := by
  have e3 : g * 3 = 3 * g := Nat.mul_comm _ _
  have hmem2 : (⟨64, some ⟨bO, 0, none⟩, 768, 768, onceCells (t.1.map (G.getD · 0))⟩ : Row) ∈ doRows vN (.slice an nn cn) vC bO vR bi ra rc i (onceCells (t.1.map (G.getD · 0))) t ++ Y := by simp [doRows]
  by_cases hm : g ∈ t.1.map (G.getD · 0)
  · have h0 := (ho.cellOf hmem2 (j := 3 * g + 0) (by rw [onceCells_get _ hg256 (by omega)]; rfl)).1
    rw [if_pos hm] at h0
    have hst : doStep G X t i = t := by unfold doStep; rw [hg, if_pos hm]
    rw [hst]
    rw [Nat.add_zero, ← e3] at h0
    refine (do_done ⟨bO, g * 3, none⟩ _ w h0).mono ?_
    rintro e w' ⟨rfl, rfl⟩
    exact ⟨rfl, ra, rc, ho, Below.refl _ _⟩
  · have h0 := ho.cellOf hmem2 (j := 3 * g + 0) (by rw [onceCells_get _ hg256 (by omega)]; rfl)
    have h1 := ho.cellOf hmem2 (j := 3 * g + 1) (by rw [onceCells_get _ hg256 (by omega)]; rfl)
    rw [if_neg hm] at h0
    rw [Nat.add_zero, ← e3] at h0
    rw [← e3] at h1
    have hst : doStep G X t i = (t.1 ++ [i], t.2 + X.getD i 0) := by unfold doStep; rw [hg, if_neg hm]
    rw [hst]
    obtain ⟨hoL, hbL⟩ := Owns.stored (p := [_, _]) ho rfl (g * 3 + 1) (.int .i32 1)
    have hoL' : Owns (w.setCell ⟨bO, g * 3 + 1, none⟩ (.int .i32 1)) B (doRows vN (.slice an nn cn) vC bO vR bi ra rc i ((onceCells (t.1.map (G.getD · 0))).set (g * 3 + 1) (.int .i32 1)) t ++ Y) := hoL
    have hl := onceCells_length (t.1.map (G.getD · 0))
    refine (do_first bO (g * 3) 30 #[ptr vC, ptr vN, ptr bi, ptr vR] w (fun w2 => ∃ ra' rc', Owns w2 B (doRows vN (.slice an nn cn) vC bO vR bi ra' rc' i ((onceCells (t.1.map (G.getD · 0))).set (g * 3 + 1) (.int .i32 1)) (t.1 ++ [i], t.2 + X.getD i 0) ++ Y) ∧ Below B w w2) (do_inv _) h0.1 h1.1 h0.2 h1.2 ?_).mono ?_
    · refine (do_leaf _ B vN vC bO vR bi nn cn an ra rc i _ t X Y (by simpa using hBw) hnl hbn hin htl (hrn _ hbL) hoL').mono ?_
      rintro e w2 ⟨rfl, ra', rc', ho2, hb2⟩
      have hmem : (⟨64, some ⟨bO, 0, none⟩, 768, 768, (onceCells (t.1.map (G.getD · 0))).set (g * 3 + 1) (.int .i32 1)⟩ : Row) ∈ doRows vN (.slice an nn cn) vC bO vR bi ra' rc' i ((onceCells (t.1.map (G.getD · 0))).set (g * 3 + 1) (.int .i32 1)) (t.1 ++ [i], t.2 + X.getD i 0) ++ Y := by simp [doRows]
      have k0 := ho2.cellOf hmem (j := g * 3) (v := .int .u32 0) (by
        rw [List.getElem?_set_ne (by omega)]
        have := onceCells_get (t.1.map (G.getD · 0)) hg256 (j := 0) (by omega)
        rw [Nat.add_zero, ← e3] at this
        rw [this]
        simp only [onceCell, List.getElem?_cons_zero, if_neg hm])
      have k1 := ho2.cellOf hmem (j := g * 3 + 1) (v := .int .i32 1) (by rw [List.getElem?_set_self (by omega)])
      exact ⟨rfl, k0.1, k1.1, k0.2, k1.2, ra', rc', ho2, hbL.trans hb2⟩
    · rintro e w' ⟨rfl, w2, ⟨ra', rc', ho2, hb2⟩, _, _, rfl⟩
      obtain ⟨ho3, hb3⟩ := Owns.stored (p := [_, _]) ho2.drew rfl (g * 3) (.int .u32 1)
      obtain ⟨ho4, hb4⟩ := Owns.stored (p := [_, _]) ho3 rfl (g * 3 + 1) (.int .i32 0)
      refine ⟨rfl, ra', rc', ?_, hb2.drew.trans (hb3.trans hb4)⟩
      have hset := onceCells_set (t.1.map (G.getD · 0)) hg256 ((t.1 ++ [i]).map (G.getD · 0)) (by
        intro x
        rw [List.map_append, List.mem_append]
        have : x ∈ [i].map (G.getD · 0) ↔ x = g := by simp only [List.map_cons, List.map_nil, List.mem_singleton, hg]
        rw [this])
      rw [← e3] at hset
      rw [← hset]
      exact ho4

/-- What OnceDo leaves. -/
def Done (w : World) (n : Nat) (seen : List (BitVec 64)) (ran : List Nat) (e : Ending) (w' : World) : Prop :=
  ∃ sa sc ra rc, e = .returned (.tuple #[.slice sa n sc, .slice ra ran.length rc]) ∧ Owns w' w.heap.size [⟨36, sa, n, sc, U seen⟩, ⟨3, ra, ran.length, rc, NI ran⟩] ∧ Below w.heap.size w w'

set_option maxHeartbeats 6400000 in
set_option maxRecDepth 100000 in
theorem onceDo_any (w : World) (a0 a1 : Option Addr) (n0 n1 c0 c1 n : Nat) (gs : List (BitVec 8)) (X : List (BitVec 64)) (hlg : gs.length = n0) (hrg : Rd w a0 (I8 gs)) (hlx : X.length = n1) (hrx : Rd w a1 (U X)) (bn0 : n0 ≤ 140737488355328) (bn : n1 ≤ 17592186043904) (hmin : (n1 < n0 ∧ n = n1) ∨ (¬ n1 < n0 ∧ n = n0))
    (G : List Nat) (hG : places gs = G) (seen : List (BitVec 64)) (hseen : seenDo G X n = seen) (ran : List Nat) (hran : (doAt G X n).1 = ran) :
    Calls Try.prog 11 #[.slice a0 n0 c0, .slice a1 n1 c1] w (Done w n seen ran) := by
  have hnn : n ≤ n0 ∧ n ≤ n1 := by omega
  obtain ⟨T, hT⟩ : ∃ T, doAt G X = T := ⟨_, rfl⟩
  have HT0 : Hid (T 0 = ([], 0)) := by show _ = _; rw [← hT]; rfl
  have HTS : Hid (∀ k, T (k + 1) = doStep G X (T k) k) := by refine Lib.hid fun k => ?_; rw [← hT]; exact doAt_succ
  have HTL : Hid (∀ k, (T k).1.length ≤ k) := by refine Lib.hid fun k => ?_; rw [← hT]; exact doAt_short k
  have HSL : Hid (seen.length = n) := by show _ = _; rw [← hseen]; simp [seenDo]
  have HSG : Hid (∀ k (h : k < seen.length), seen[k] = (T (k + 1)).2) := by refine Lib.hid ?_; subst hseen; intro k h; rw [← hT]; simp [seenDo]
  have HPG : Hid (∀ i (h : i < gs.length), (G.getD i 0 : Int) = gs[i].toInt + 128 ∧ G.getD i 0 < 256) := by refine Lib.hid fun i h => ?_; rw [← hG]; exact places_get h
  rw [hT] at hran
  have HRAN := Lib.hid hran
  obtain ⟨j0, hj⟩ : ∃ j, Try.prog.info? 64 = some j ∧ ∃ z, j.zero = some z ∧ z.cells = (onceCells []).toArray := by
    have h := info256
    cases hi : Try.prog.info? 64 with
    | none => rw [hi] at h; simp at h
    | some j =>
      rw [hi] at h
      simp only [Option.map_some, Option.some.injEq] at h
      cases hz : j.zero with
      | none => rw [hz] at h; simp at h
      | some z =>
        rw [hz] at h
        simp only [Option.map_some, Option.some.injEq] at h
        exact ⟨j, rfl, z, hz, by rw [← h]⟩
  obtain ⟨hji, z0, hjz, hjc⟩ := hj
  have HLG := Lib.hid hlg; have HRG := Lib.hid hrg; have HLX := Lib.hid hlx; have HRX := Lib.hid hrx
  clear hlg hrg hlx hrx hT hseen hran hG
  have hmf : ∀ (fn : Fn) (first cap : Array Value) (w : World), (Instr.makeFunc fn first cap).run Try.prog w = .ok (.func fn first cap) w := fun _ _ _ _ => rfl
  have O0 := Lib.hid ((((((Owns.nil w w.heap.size).made (Nat.le_refl _) 23 #[.slice a1 n1 c1] (by simp [maxLen])).made (by simp) 53 #[.int .u64 0] (by simp [maxLen])).made (by simp; omega) 64 (onceCells []).toArray (by simp [maxLen, onceCells_length])).made (by simp; omega) 36 #[] (by simp)).made (by simp; omega) 3 #[] (by simp) |>.made (by simp; omega) 24 #[.slice (some ⟨w.heap.size + 1 + 1 + 1 + 1, 0, none⟩) 0 0] (by simp [maxLen]))
  have B0 := Lib.hid ((((((Below.refl w.heap.size w).alloc (Nat.le_refl _) (.cells #[.slice a1 n1 c1] 23)).alloc (by simp) (.cells #[.int .u64 0] 53)).alloc (by simp; omega) (.cells (onceCells []).toArray 64)).alloc (by simp; omega) (.cells #[] 36)).alloc (by simp; omega) (.cells #[] 3) |>.alloc (by simp; omega) (.cells #[.slice (some ⟨w.heap.size + 1 + 1 + 1 + 1, 0, none⟩) 0 0] 24))
  have hOC : (onceCells []).toArray.size = 768 := by simp [onceCells_length]
  obtain ⟨OC, hOCe⟩ : ∃ OC, (onceCells []).toArray = OC := ⟨_, rfl⟩
  rw [hOCe] at hjc
  have HO0 : Hid (Owns ((((((w.alloc (.cells #[.slice a1 n1 c1] 23)).alloc (.cells #[.int .u64 0] 53)).alloc (.cells OC 64)).alloc (.cells #[] 36)).alloc (.cells #[] 3)).alloc (.cells #[.slice (some ⟨w.heap.size + 1 + 1 + 1 + 1, 0, none⟩) 0 0] 24)) w.heap.size
      (doBase w.heap.size (.slice a1 n1 c1) (w.heap.size + 1) (w.heap.size + 1 + 1) (w.heap.size + 1 + 1 + 1 + 1 + 1) (some ⟨w.heap.size + 1 + 1 + 1 + 1, 0, none⟩) 0 (onceCells []) ([], 0) ++ [⟨36, some ⟨w.heap.size + 1 + 1 + 1, 0, none⟩, 0, 0, []⟩])) := by
    refine Lib.hid ?_
    have h1 := O0.out
    rw [hOCe] at h1
    simp only [World.size_alloc, List.nil_append, List.cons_append, List.append_assoc] at h1
    have key : ∀ (a b c d e f : Row), List.Perm [a, b, c, d, e, f] [a, b, c, e, f, d] := fun a b c d e f => (List.Perm.refl [a, b, c]).append (List.perm_append_comm (l₁ := [d]) (l₂ := [e, f]))
    have h2 := h1.perm (key _ _ _ _ _ _)
    rw [← hOCe] at h2
    simp only [List.size_toArray, onceCells_length] at h2
    rw [← hOCe]
    exact h2
  have HB0 : Hid (Below w.heap.size w ((((((w.alloc (.cells #[.slice a1 n1 c1] 23)).alloc (.cells #[.int .u64 0] 53)).alloc (.cells OC 64)).alloc (.cells #[] 36)).alloc (.cells #[] 3)).alloc (.cells #[.slice (some ⟨w.heap.size + 1 + 1 + 1 + 1, 0, none⟩) 0 0] 24))) := by rw [← hOCe]; exact B0.out
  clear O0 B0 hOC hOCe
  rcases hmin with ⟨hlt0, rfl⟩ | ⟨hlt0, rfl⟩
  · have tm : (n : Int) < (n0 : Int) := by omega
    go_enter Try.func11, Try.ntmps11
    go_wp2_with (refine wpList_alloc rfl 64 rfl j0 z0 OC hji hjz hjc ?_)
    go_loopw [18, 8] (fun i v wr => ∃ (k : Nat) (e2 ra : Option Addr) (g2 rc : Nat), k ≤ n ∧ i = .int .i64 k ∧ v = .slice e2 k g2 ∧ Owns wr w.heap.size (doBase w.heap.size (.slice a1 n c1) (w.heap.size + 1) (w.heap.size + 1 + 1) (w.heap.size + 1 + 1 + 1 + 1 + 1) ra rc (onceCells ((T k).1.map (G.getD · 0))) (T k) ++ [⟨36, e2, k, g2, U (seen.take k)⟩]) ∧ Below w.heap.size w wr) (fun i _ _ => n - (intOf i).toNat)
    case atStart =>
      refine ⟨0, _, some ⟨w.heap.size + 1 + 1 + 1 + 1, 0, none⟩, _, 0, Nat.zero_le _, rfl, rfl, ?_, HB0.out⟩
      rw [HT0.out]
      exact HO0.out
    case round =>
      clear HO0 HB0 hji hjz hjc
      obtain ⟨k, e2, ra, g2, rc, hk, rfl, rfl, ho, hb⟩ := hrel
      have hsz := hb.size
      by_cases hlt : k < n
      · have lg : k < gs.length := by rw [HLG.out]; omega
        have lx : k < X.length := by rw [HLX.out]; omega
        have ls : k < seen.length := by rw [HSL.out]; exact hlt
        obtain ⟨ba, oa, rfl, qa⟩ := at_i8 HRG.out hb (Nat.le_refl _) lg
        obtain ⟨hpg, hg256⟩ := HPG.out k lg
        obtain ⟨g, hgg⟩ : ∃ g, G.getD k 0 = g := ⟨_, rfl⟩
        rw [hgg] at hpg hg256
        obtain ⟨xg, hxg⟩ : ∃ x, gs[k].toInt = x := ⟨_, rfl⟩
        rw [hxg] at qa hpg
        have HSV := Lib.hid (HSG.out k ls)
        have HTK1 := Lib.hid (HTS.out k)
        have htl := HTL.out k
        have HO1 : Hid (Owns (wr.alloc (.cells #[.int .i64 (k : Int)] 3)) w.heap.size (doRows w.heap.size (.slice a1 n c1) (w.heap.size + 1) (w.heap.size + 1 + 1) (w.heap.size + 1 + 1 + 1 + 1 + 1) wr.heap.size ra rc k (onceCells ((T k).1.map (G.getD · 0))) (T k) ++ [⟨36, e2, k, g2, U (seen.take k)⟩])) := by
          refine Lib.hid ?_
          have h1 := ho.made hsz 3 #[.int .i64 (k : Int)] (by simp [maxLen])
          exact h1.perm ((List.Perm.refl (doBase _ _ _ _ _ _ _ _ _)).append (List.Perm.swap _ _ []))
        have HB1 := Lib.hid (hb.alloc hsz (.cells #[.int .i64 (k : Int)] 3))
        obtain ⟨wa, hwa⟩ : ∃ wa, wr.alloc (.cells #[.int .i64 (k : Int)] 3) = wa := ⟨_, rfl⟩
        have hra : (wr.alloc (.cells #[.int .i64 (k : Int)] 3)).cell? ⟨ba, oa + k, none⟩ = some (.int .i8 xg) := by
          have := (hb.alloc hsz (.cells #[.int .i64 (k : Int)] 3))
          obtain ⟨bb, ob, hbb, qb⟩ := at_i8 HRG.out this (Nat.le_refl _) lg
          simp only [Option.some.injEq, Addr.mk.injEq, and_true] at hbb
          obtain ⟨rfl, rfl⟩ := hbb
          rw [hxg] at qb
          exact qb
        rw [hwa] at HO1 HB1 hra
        have qi := (HO1.out.var 5 rfl).1
        replace qi : wa.cell? ⟨wr.heap.size, 0, none⟩ = some (.int .i64 (k : Int)) := qi
        have hxe : xg = (g : Int) - 128 := by omega
        subst hxe
        have hix : ((g : Int) - 128 + 128) = (g : Int) := by omega
        clear hpg qa
        have HC := Lib.hid (do_call wa w.heap.size w.heap.size (w.heap.size + 1) (w.heap.size + 1 + 1) (w.heap.size + 1 + 1 + 1 + 1 + 1) wr.heap.size n c1 a1 ra rc k g G (T k) X [⟨36, e2, k, g2, U (seen.take k)⟩] hgg hg256 (by have := HB1.out.size; exact this) HLX.out (by omega) (by omega) htl (fun v hv => HRX.out.mono (HB1.out.trans hv) (Nat.le_refl _)) HO1.out)
        rw [← HTK1.out] at HC
        have hsa := HB1.out.size
        go_wp2_with fail
        refine HC.out.mono ?_
        rintro e w3 ⟨rfl, ra', rc', ho3, hb3⟩
        obtain ⟨c, hc⟩ : ∃ c, (T (k + 1)).2 = c := ⟨_, rfl⟩
        have HLD := Lib.hid (load_own (p := [_]) (j := 0) (b := w.heap.size + 1) (E := 53) (n := 1) (c := 1) (st := [(T (k + 1)).2]) ho3 (by simp) c hc)
        rw [hc] at HSV
        have HTK : Hid (U (seen.take (k + 1)) = U (seen.take k) ++ [.int .u64 (c.toNat : Int)]) := by refine Lib.hid ?_; rw [List.take_succ_eq_append_getElem ls, U_snoc, HSV.out]
        have HO3 := Lib.hid ho3; have HB3 := Lib.hid (HB1.out.trans hb3)
        have hs3 : w.heap.size ≤ w3.heap.size := HB3.out.size
        clear ho3 hb3 HC HO1 hc
        go_wp2_with fail
        refine HLD.out.mono ?_
        rintro e w4 ⟨rfl, rfl⟩
        go_wp2_with (at_builtin; refine app30s (doRows w.heap.size (.slice a1 n c1) (w.heap.size + 1) (w.heap.size + 1 + 1) (w.heap.size + 1 + 1 + 1 + 1 + 1) wr.heap.size ra' rc' k (onceCells ((T (k + 1)).1.map (G.getD · 0))) (T (k + 1))) [] (.tmp 30) (.tmp 32) rfl rfl w3.heap.size rfl rfl rfl HO3.out rfl (by omega) (by omega) ?_)
        intro e3 g3 w5 ho5 hb5 hs5
        have HR : Hid (Owns w5 w.heap.size (doBase w.heap.size (.slice a1 n c1) (w.heap.size + 1) (w.heap.size + 1 + 1) (w.heap.size + 1 + 1 + 1 + 1 + 1) ra' rc' (onceCells ((T (k + 1)).1.map (G.getD · 0))) (T (k + 1)) ++ [⟨36, e3, (k + 1), g3, U (seen.take (k + 1))⟩])) := by
          refine Lib.hid ?_
          rw [HTK.out]
          refine ho5.drop ?_
          refine (List.Sublist.refl (doBase _ _ _ _ _ _ _ _ _)).append ?_
          exact .cons _ (.refl _)
        have HT := Lib.hid (HB3.out.trans hb5)
        clear ho5 hb5 HO3 HB3 HLD
        go_wp2
        go_roundw
        case rel => exact ⟨k + 1, e3, ra', g3, rc', by omega, by go_num, rfl, HR.out, HT.out⟩
        case measure => simp [intOf] <;> omega
      · have hkn : n = k := by omega
        subst hkn
        rw [List.take_of_length_le (by rw [HSL.out]; omega)] at ho
        have qV := (ho.var 4 rfl).1
        have HO : Hid (Owns wr w.heap.size [⟨36, e2, n, g2, U seen⟩, ⟨3, ra, ran.length, rc, NI ran⟩]) := by
          refine Lib.hid ?_
          rw [← HRAN.out]
          exact (ho.drop (L' := [⟨3, ra, (T n).1.length, rc, NI (T n).1⟩, ⟨36, e2, n, g2, U seen⟩]) (.cons _ (.cons _ (.cons _ (.cons_cons _ (.cons _ (.refl _))))))).perm (List.Perm.swap _ _ _)
        rw [HRAN.out] at qV
        have HB := Lib.hid hb
        clear ho hb
        go_wp2
        go_quiet (fail)
        go_wp2
        go_ret2
        exact ⟨e2, g2, ra, rc, rfl, HO.out.drewN _, below_drewN HB.out _⟩
  · have tm : ¬ ((n1 : Int) < (n : Int)) := by omega
    go_enter Try.func11, Try.ntmps11
    go_wp2_with (refine wpList_alloc rfl 64 rfl j0 z0 OC hji hjz hjc ?_)
    go_loopw [18, 8] (fun i v wr => ∃ (k : Nat) (e2 ra : Option Addr) (g2 rc : Nat), k ≤ n ∧ i = .int .i64 k ∧ v = .slice e2 k g2 ∧ Owns wr w.heap.size (doBase w.heap.size (.slice a1 n1 c1) (w.heap.size + 1) (w.heap.size + 1 + 1) (w.heap.size + 1 + 1 + 1 + 1 + 1) ra rc (onceCells ((T k).1.map (G.getD · 0))) (T k) ++ [⟨36, e2, k, g2, U (seen.take k)⟩]) ∧ Below w.heap.size w wr) (fun i _ _ => n - (intOf i).toNat)
    case atStart =>
      refine ⟨0, _, some ⟨w.heap.size + 1 + 1 + 1 + 1, 0, none⟩, _, 0, Nat.zero_le _, rfl, rfl, ?_, HB0.out⟩
      rw [HT0.out]
      exact HO0.out
    case round =>
      clear HO0 HB0 hji hjz hjc
      obtain ⟨k, e2, ra, g2, rc, hk, rfl, rfl, ho, hb⟩ := hrel
      have hsz := hb.size
      by_cases hlt : k < n
      · have lg : k < gs.length := by rw [HLG.out]; omega
        have lx : k < X.length := by rw [HLX.out]; omega
        have ls : k < seen.length := by rw [HSL.out]; exact hlt
        obtain ⟨ba, oa, rfl, qa⟩ := at_i8 HRG.out hb (Nat.le_refl _) lg
        obtain ⟨hpg, hg256⟩ := HPG.out k lg
        obtain ⟨g, hgg⟩ : ∃ g, G.getD k 0 = g := ⟨_, rfl⟩
        rw [hgg] at hpg hg256
        obtain ⟨xg, hxg⟩ : ∃ x, gs[k].toInt = x := ⟨_, rfl⟩
        rw [hxg] at qa hpg
        have HSV := Lib.hid (HSG.out k ls)
        have HTK1 := Lib.hid (HTS.out k)
        have htl := HTL.out k
        have HO1 : Hid (Owns (wr.alloc (.cells #[.int .i64 (k : Int)] 3)) w.heap.size (doRows w.heap.size (.slice a1 n1 c1) (w.heap.size + 1) (w.heap.size + 1 + 1) (w.heap.size + 1 + 1 + 1 + 1 + 1) wr.heap.size ra rc k (onceCells ((T k).1.map (G.getD · 0))) (T k) ++ [⟨36, e2, k, g2, U (seen.take k)⟩])) := by
          refine Lib.hid ?_
          have h1 := ho.made hsz 3 #[.int .i64 (k : Int)] (by simp [maxLen])
          exact h1.perm ((List.Perm.refl (doBase _ _ _ _ _ _ _ _ _)).append (List.Perm.swap _ _ []))
        have HB1 := Lib.hid (hb.alloc hsz (.cells #[.int .i64 (k : Int)] 3))
        obtain ⟨wa, hwa⟩ : ∃ wa, wr.alloc (.cells #[.int .i64 (k : Int)] 3) = wa := ⟨_, rfl⟩
        have hra : (wr.alloc (.cells #[.int .i64 (k : Int)] 3)).cell? ⟨ba, oa + k, none⟩ = some (.int .i8 xg) := by
          have := (hb.alloc hsz (.cells #[.int .i64 (k : Int)] 3))
          obtain ⟨bb, ob, hbb, qb⟩ := at_i8 HRG.out this (Nat.le_refl _) lg
          simp only [Option.some.injEq, Addr.mk.injEq, and_true] at hbb
          obtain ⟨rfl, rfl⟩ := hbb
          rw [hxg] at qb
          exact qb
        rw [hwa] at HO1 HB1 hra
        have qi := (HO1.out.var 5 rfl).1
        replace qi : wa.cell? ⟨wr.heap.size, 0, none⟩ = some (.int .i64 (k : Int)) := qi
        have hxe : xg = (g : Int) - 128 := by omega
        subst hxe
        have hix : ((g : Int) - 128 + 128) = (g : Int) := by omega
        clear hpg qa
        have HC := Lib.hid (do_call wa w.heap.size w.heap.size (w.heap.size + 1) (w.heap.size + 1 + 1) (w.heap.size + 1 + 1 + 1 + 1 + 1) wr.heap.size n1 c1 a1 ra rc k g G (T k) X [⟨36, e2, k, g2, U (seen.take k)⟩] hgg hg256 (by have := HB1.out.size; exact this) HLX.out (by omega) (by omega) htl (fun v hv => HRX.out.mono (HB1.out.trans hv) (Nat.le_refl _)) HO1.out)
        rw [← HTK1.out] at HC
        have hsa := HB1.out.size
        go_wp2_with fail
        refine HC.out.mono ?_
        rintro e w3 ⟨rfl, ra', rc', ho3, hb3⟩
        obtain ⟨c, hc⟩ : ∃ c, (T (k + 1)).2 = c := ⟨_, rfl⟩
        have HLD := Lib.hid (load_own (p := [_]) (j := 0) (b := w.heap.size + 1) (E := 53) (n := 1) (c := 1) (st := [(T (k + 1)).2]) ho3 (by simp) c hc)
        rw [hc] at HSV
        have HTK : Hid (U (seen.take (k + 1)) = U (seen.take k) ++ [.int .u64 (c.toNat : Int)]) := by refine Lib.hid ?_; rw [List.take_succ_eq_append_getElem ls, U_snoc, HSV.out]
        have HO3 := Lib.hid ho3; have HB3 := Lib.hid (HB1.out.trans hb3)
        have hs3 : w.heap.size ≤ w3.heap.size := HB3.out.size
        clear ho3 hb3 HC HO1 hc
        go_wp2_with fail
        refine HLD.out.mono ?_
        rintro e w4 ⟨rfl, rfl⟩
        go_wp2_with (at_builtin; refine app30s (doRows w.heap.size (.slice a1 n1 c1) (w.heap.size + 1) (w.heap.size + 1 + 1) (w.heap.size + 1 + 1 + 1 + 1 + 1) wr.heap.size ra' rc' k (onceCells ((T (k + 1)).1.map (G.getD · 0))) (T (k + 1))) [] (.tmp 30) (.tmp 32) rfl rfl w3.heap.size rfl rfl rfl HO3.out rfl (by omega) (by omega) ?_)
        intro e3 g3 w5 ho5 hb5 hs5
        have HR : Hid (Owns w5 w.heap.size (doBase w.heap.size (.slice a1 n1 c1) (w.heap.size + 1) (w.heap.size + 1 + 1) (w.heap.size + 1 + 1 + 1 + 1 + 1) ra' rc' (onceCells ((T (k + 1)).1.map (G.getD · 0))) (T (k + 1)) ++ [⟨36, e3, (k + 1), g3, U (seen.take (k + 1))⟩])) := by
          refine Lib.hid ?_
          rw [HTK.out]
          refine ho5.drop ?_
          refine (List.Sublist.refl (doBase _ _ _ _ _ _ _ _ _)).append ?_
          exact .cons _ (.refl _)
        have HT := Lib.hid (HB3.out.trans hb5)
        clear ho5 hb5 HO3 HB3 HLD
        go_wp2
        go_roundw
        case rel => exact ⟨k + 1, e3, ra', g3, rc', by omega, by go_num, rfl, HR.out, HT.out⟩
        case measure => simp [intOf] <;> omega
      · have hkn : n = k := by omega
        subst hkn
        rw [List.take_of_length_le (by rw [HSL.out]; omega)] at ho
        have qV := (ho.var 4 rfl).1
        have HO : Hid (Owns wr w.heap.size [⟨36, e2, n, g2, U seen⟩, ⟨3, ra, ran.length, rc, NI ran⟩]) := by
          refine Lib.hid ?_
          rw [← HRAN.out]
          exact (ho.drop (L' := [⟨3, ra, (T n).1.length, rc, NI (T n).1⟩, ⟨36, e2, n, g2, U seen⟩]) (.cons _ (.cons _ (.cons _ (.cons_cons _ (.cons _ (.refl _))))))).perm (List.Perm.swap _ _ _)
        rw [HRAN.out] at qV
        have HB := Lib.hid hb
        clear ho hb
        go_wp2
        go_quiet (fail)
        go_wp2
        go_ret2
        exact ⟨e2, g2, ra, rc, rfl, HO.out.drewN _, below_drewN HB.out _⟩
end Go.Proofs.Ytjjmjjbeecmmlaf
