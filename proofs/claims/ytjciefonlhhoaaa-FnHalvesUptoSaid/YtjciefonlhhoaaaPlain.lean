/-
  The plain side: what a script of calls does to a list of cells.
-/
import Derived.Test.YtjciefonlhhoaaaLib
namespace Go.Proofs.Ytjciefonlhhoaaa
set_option linter.unusedVariables false
set_option linter.unusedSimpArgs false
open Go.RowKit

/-- A list of words as cells. -/
def U (xs : List (BitVec 64)) : List Value := xs.map fun x => .int .u64 (x.toNat : Int)
def U8 (xs : List (BitVec 8)) : List Value := xs.map fun x => .int .u8 (x.toNat : Int)
def I8 (xs : List (BitVec 8)) : List Value := xs.map fun x => .int .i8 x.toInt
def NI (xs : List Nat) : List Value := xs.map fun (x : Nat) => .int .i64 (x : Int)

section
variable {xs ys : List (BitVec 64)} {i : Nat}
@[simp] theorem U_length : (U xs).length = xs.length := by simp [U]
@[simp] theorem U_nil : U [] = [] := rfl
theorem U_append : U (xs ++ ys) = U xs ++ U ys := by simp [U]
theorem U_snoc (x : BitVec 64) : U (xs ++ [x]) = U xs ++ [.int .u64 (x.toNat : Int)] := by simp [U]
theorem U_get (h : i < xs.length) : (U xs)[i]? = some (.int .u64 (xs[i].toNat : Int)) := by simp [U, h]
theorem U_set (x : BitVec 64) : (U xs).set i (.int .u64 (x.toNat : Int)) = U (xs.set i x) := by simp [U, List.map_set]
theorem U_one : ∀ u ∈ U xs, u.oneCell' = true := by
  intro u hu
  obtain ⟨_, _, rfl⟩ := List.mem_map.1 hu
  rfl
theorem U_inj (h : U xs = U ys) : xs = ys := by
  unfold U at h
  refine (List.map_inj_right ?_).1 h
  intro x y hxy
  simp only [Value.int.injEq, true_and, Int.natCast_inj] at hxy
  exact BitVec.eq_of_toNat_eq hxy
end
section
variable {xs ys : List (BitVec 8)} {i : Nat}
@[simp] theorem U8_length : (U8 xs).length = xs.length := by simp [U8]
@[simp] theorem U8_nil : U8 [] = [] := rfl
theorem U8_snoc (x : BitVec 8) : U8 (xs ++ [x]) = U8 xs ++ [.int .u8 (x.toNat : Int)] := by simp [U8]
theorem U8_get (h : i < xs.length) : (U8 xs)[i]? = some (.int .u8 (xs[i].toNat : Int)) := by simp [U8, h]
theorem U8_set (x : BitVec 8) : (U8 xs).set i (.int .u8 (x.toNat : Int)) = U8 (xs.set i x) := by simp [U8, List.map_set]
end
section
variable {xs ys : List Nat} {i : Nat}
@[simp] theorem NI_length : (NI xs).length = xs.length := by simp [NI]
@[simp] theorem NI_nil : NI [] = [] := rfl
theorem NI_snoc (x : Nat) : NI (xs ++ [x]) = NI xs ++ [.int .i64 (x : Int)] := by simp [NI]
theorem NI_get (h : i < xs.length) : (NI xs)[i]? = some (.int .i64 (xs[i] : Int)) := by simp [NI, h]
theorem NI_set (x : Nat) : (NI xs).set i (.int .i64 (x : Int)) = NI (xs.set i x) := by simp [NI, List.map_set]
end

/-- A call of a script. -/
structure Call (n : Nat) where
  kind : BitVec 8
  cell : Nat
  a : BitVec n
  b : BitVec n

/-- What one call answers, and what the cell is then. -/
def Call.step {n : Nat} (c : Call n) (old : BitVec n) : BitVec n × BitVec n :=
  if c.kind = 0#8 then (old, old)
  else if c.kind = 1#8 then (0, c.a)
  else if c.kind = 2#8 then (old + c.a, old + c.a)
  else if c.kind = 3#8 then (old, c.a)
  else if c.kind = 4#8 then (if old = c.a then (1, c.b) else (0, old))
  else if c.kind = 5#8 then (old, old &&& c.a)
  else if c.kind = 6#8 then (old, old ||| c.a)
  else (0, old)

/-- A script over cells: the answers, and the cells at last. -/
def runL {n : Nat} : List (BitVec n) → List (Call n) → List (BitVec n) × List (BitVec n)
  | st, [] => ([], st)
  | st, c :: cs => let r := runL (st.set c.cell (c.step (st.getD c.cell 0)).2) cs; ((c.step (st.getD c.cell 0)).1 :: r.1, r.2)

section
variable {n : Nat} {st : List (BitVec n)} {cs ds : List (Call n)}

theorem runL_append : runL st (cs ++ ds) = ((runL st cs).1 ++ (runL (runL st cs).2 ds).1, (runL (runL st cs).2 ds).2) := by
  induction cs generalizing st with
  | nil => simp [runL]
  | cons c cs ih => simp [runL, ih]

theorem runL_fst_length : (runL st cs).1.length = cs.length := by
  induction cs generalizing st with
  | nil => simp [runL]
  | cons c cs ih => simp [runL, ih]

theorem runL_snd_length : (runL st cs).2.length = st.length := by
  induction cs generalizing st with
  | nil => simp [runL]
  | cons c cs ih => simp [runL, ih]

theorem runL_take_succ {k : Nat} (h : k < cs.length) : runL st (cs.take (k + 1)) =
    ((runL st (cs.take k)).1 ++ [(cs[k].step ((runL st (cs.take k)).2.getD cs[k].cell 0)).1], (runL st (cs.take k)).2.set cs[k].cell (cs[k].step ((runL st (cs.take k)).2.getD cs[k].cell 0)).2) := by
  rw [List.take_succ_eq_append_getElem h, runL_append]
  simp [runL]
end

section
variable (c : Call 64) (old : BitVec 64)
theorem Call.step0 {n : Nat} (c : Call n) (old : BitVec n) (h : c.kind = 0#8) : c.step old = (old, old) := by simp [Call.step, h]
theorem Call.step1 {n : Nat} (c : Call n) (old : BitVec n) (h : c.kind = 1#8) : c.step old = (0, c.a) := by simp [Call.step, h]
theorem Call.step2 {n : Nat} (c : Call n) (old : BitVec n) (h : c.kind = 2#8) : c.step old = (old + c.a, old + c.a) := by simp [Call.step, h]
theorem Call.step3 {n : Nat} (c : Call n) (old : BitVec n) (h : c.kind = 3#8) : c.step old = (old, c.a) := by simp [Call.step, h]
theorem Call.step4 {n : Nat} (c : Call n) (old : BitVec n) (h : c.kind = 4#8) : c.step old = if old = c.a then (1, c.b) else (0, old) := by simp [Call.step, h]
theorem Call.step5 {n : Nat} (c : Call n) (old : BitVec n) (h : c.kind = 5#8) : c.step old = (old, old &&& c.a) := by simp [Call.step, h]
theorem Call.step6 {n : Nat} (c : Call n) (old : BitVec n) (h : c.kind = 6#8) : c.step old = (old, old ||| c.a) := by simp [Call.step, h]
theorem Call.step7 {n : Nat} (c : Call n) (old : BitVec n) (h0 : ¬ c.kind = 0#8) (h1 : ¬ c.kind = 1#8) (h2 : ¬ c.kind = 2#8) (h3 : ¬ c.kind = 3#8) (h4 : ¬ c.kind = 4#8) (h5 : ¬ c.kind = 5#8) (h6 : ¬ c.kind = 6#8) : c.step old = (0, old) := by
  simp [Call.step, h0, h1, h2, h3, h4, h5, h6]
end

theorem ret_bool {a b : Bool} (h : a = b) : Ending.returned (.bool a) = .returned (.bool b) := by rw [h]

/-! Numbers -/
theorem u64_add (x y : BitVec 64) : IntKind.u64.wrap ((x.toNat : Int) + (y.toNat : Int)) = ((x + y).toNat : Int) := by
  rw [IntKind.wrap_u64, BitVec.toNat_add]
  omega
theorem u64_bits (r : BitVec 64) : IntKind.u64.wrap (r.toNat : Int) = (r.toNat : Int) := by
  rw [IntKind.wrap_u64]
  have := r.isLt
  omega
theorem u64_of (x : BitVec 64) : BitVec.ofInt 64 (x.toNat : Int) = x := by simp

variable {P : Program} {f : FuncId} {fn : Func}

theorem run_add_u64 (x y : BitVec 64) (w : World) : (Op.intArith .add .u64 (x.toNat : Int) (y.toNat : Int)).run P w = .ok (.int .u64 ((x + y).toNat : Int)) w := by
  simp only [Op.intArith, u64_add]
  rfl
theorem run_and_u64 (x y : BitVec 64) (w : World) : (Op.intBits .and .u64 (x.toNat : Int) (y.toNat : Int)).run P w = .ok (.int .u64 ((x &&& y).toNat : Int)) w := by
  show Sem.run P (pure (Value.int .u64 (IntKind.u64.wrap ((BitVec.ofInt 64 (x.toNat : Int) &&& BitVec.ofInt 64 (y.toNat : Int)).toNat : Int)))) w = _
  rw [u64_of, u64_of, u64_bits]
  rfl
theorem run_or_u64 (x y : BitVec 64) (w : World) : (Op.intBits .or .u64 (x.toNat : Int) (y.toNat : Int)).run P w = .ok (.int .u64 ((x ||| y).toNat : Int)) w := by
  show Sem.run P (pure (Value.int .u64 (IntKind.u64.wrap ((BitVec.ofInt 64 (x.toNat : Int) ||| BitVec.ofInt 64 (y.toNat : Int)).toNat : Int)))) w = _
  rw [u64_of, u64_of, u64_bits]
  rfl

theorem bits_and (x y : BitVec 64) : bits .and .u64 (x.toNat : Int) (y.toNat : Int) = ((x &&& y).toNat : Int) := by
  show IntKind.u64.wrap ((BitVec.ofInt 64 (x.toNat : Int) &&& BitVec.ofInt 64 (y.toNat : Int)).toNat : Int) = _
  rw [u64_of, u64_of, u64_bits]
theorem bits_or (x y : BitVec 64) : bits .or .u64 (x.toNat : Int) (y.toNat : Int) = ((x ||| y).toNat : Int) := by
  show IntKind.u64.wrap ((BitVec.ofInt 64 (x.toNat : Int) ||| BitVec.ofInt 64 (y.toNat : Int)).toNat : Int) = _
  rw [u64_of, u64_of, u64_bits]

/-- sync/atomic.SwapT: the old number comes back, the new one is there. -/
theorem run_call_swap (hf : P.funcs[f]? = some fn) (hname : (fn.name == "runtime.NumGoroutine") = false) (hb : fn.body.isNone = true) (hn : Extern.findNext fn = none) (k : IntKind)
    (he : Extern.find fn = some (Extern.Atomic.swapT (.int k))) {a : Addr} {x y : Int} {w : World} (hc : w.cell? a = some (.int k x)) (hz : w.frozen? a = false) :
    (callFunc f #[.pointer (some a), .int k y]).run P w = .ok (.value (.int k x)) (w.setCell a (.int k y)) := by
  rw [run_callFunc_extern hf hname hb hn he]
  change (Sem.run P (do
    let a' ← asAddr (.pointer (some a))
    let old ← Extern.Atomic.read (.int k) a'
    store a' (.int k y) .atomic
    pure old) w).andThen _ = _
  simp [Extern.Atomic.read, asAddr, hc, hz, run_store P w a (.int k y) .atomic rfl, Result.andThen]

/-- sync/atomic.AndT, OrT: the old number comes back, the bits are stored. -/
theorem run_call_bits (hf : P.funcs[f]? = some fn) (hname : (fn.name == "runtime.NumGoroutine") = false) (hb : fn.body.isNone = true) (hn : Extern.findNext fn = none) (k : IntKind) (op : BinOp)
    (he : Extern.find fn = some (Extern.Atomic.update (Op.intBits op) k false)) {a : Addr} {x y s : Int} {w : World} (hc : w.cell? a = some (.int k x)) (hz : w.frozen? a = false)
    (hs : (Op.intBits op k x y).run P w = .ok (.int k s) w) :
    (callFunc f #[.pointer (some a), .int k y]).run P w = .ok (.value (.int k x)) (w.setCell a (.int k s)) := by
  rw [run_callFunc_extern hf hname hb hn he]
  change (Sem.run P (do
    let a' ← asAddr (.pointer (some a))
    let old ← Extern.Atomic.read (.int k) a'
    let new ← Op.intBits op k (← asInt old) (← asInt (.int k y))
    store a' new .atomic
    pure (if false = true then new else old)) w).andThen _ = _
  simp [Extern.Atomic.read, asAddr, asInt, asIntOf, hc, hz, hs, run_store P w a (.int k s) .atomic rfl, Result.andThen]

/-- A cell of one of several rows is written. -/
theorem Owns.stored {w : World} {B : Nat} {p q : List Row} {r : Row} (h : Owns w B (p ++ r :: q)) {b off : Nat} (ha : r.a = some ⟨b, off, none⟩) (j : Nat) (u : Value) :
    Owns (w.setCell ⟨b, j, none⟩ u) B (p ++ { r with xs := r.xs.set j u } :: q) ∧ Below B w (w.setCell ⟨b, j, none⟩ u) := by
  obtain ⟨re, ra, n, rc, xs⟩ := r
  simp only at ha
  subst ha
  have hr := h.1 ⟨re, some ⟨b, off, none⟩, n, rc, xs⟩ (by simp)
  obtain ⟨_, _, h3⟩ := ownsRow_rd hr
  obtain ⟨rfl, hB, hlt, _⟩ := h3 b off rfl
  obtain ⟨h1, h2⟩ := World.ownsRow.stored hr j u
  refine ⟨Owns.turn (r' := ⟨re, some ⟨b, 0, none⟩, n, rc, xs.set j u⟩) h h1 h2 (.inr (.inl rfl)), (Below.refl B w).setCell hB u⟩
end Go.Proofs.Ytjciefonlhhoaaa
