/-
  The contracts of what sync.OnceFunc returns: the first call runs the function; later ones do nothing.
-/
import Derived.Test.YtjjmjjbeecmmlaeOnce
import Derived.Test.YtjjmjjbeecmmlaePlain
namespace Go.Proofs.Ytjjmjjbeecmmlae
set_option linter.unusedVariables false
set_option linter.unusedSimpArgs false
open Go.RowKit

theorem cell_of {w : World} {a b : Addr} {x v : Value} (h : w.cell? b = some v) (hab : a ≠ b) : (w.setCell a x).cell? b = some v := (World.cell?_setCell_other _ a b _ hab).trans h

set_option maxRecDepth 100000 in
set_option maxHeartbeats 1600000 in
/-- The deferred closure, where nothing panics: it lets the function go; there is no panic to keep. -/
theorem catch_idleF (b : Nat) (x0 x5 : Value) (w : World) (c0 : w.cell? ⟨b, 0, none⟩ = some x0) (c4 : w.cell? ⟨b, 4, none⟩ = some (.bool true)) (c5 : w.cell? ⟨b, 5, none⟩ = some x5)
    (z0 : w.frozen? ⟨b, 0, none⟩ = false) (z5 : w.frozen? ⟨b, 5, none⟩ = false) :
    CallsD Try.prog 31 #[.pointer (some ⟨b, 0, none⟩)] .returning w fun e u' w' => e = .returned (.tuple #[]) ∧ u' = .returning ∧ w' = (w.setCell ⟨b, 0, none⟩ .nilFunc).setCell ⟨b, 5, none⟩ .nilIface := by
  have d4 : (w.setCell ⟨b, 0, none⟩ .nilFunc).cell? ⟨b, 4, none⟩ = some (.bool true) := cell_of c4 (by simp)
  have d5 : (w.setCell ⟨b, 0, none⟩ .nilFunc).cell? ⟨b, 5, none⟩ = some x5 := cell_of c5 (by simp)
  have e4 : ((w.setCell ⟨b, 0, none⟩ .nilFunc).setCell ⟨b, 5, none⟩ .nilIface).cell? ⟨b, 4, none⟩ = some (.bool true) := cell_of d4 (by simp)
  have hnot : ∀ (x : Bool) (w : World), (Op.unary .not (.bool x)).run Try.prog w = .ok (.bool (!x)) w := fun _ _ => rfl
  refine callsD_of_wpS Try.func31 rfl fun f₀ cs hu => ?_
  apply wpS_seq
  apply wpS_region
  simp [wpOpsS, go_sem, Try.ntmps31, Exit.thenS, c0, z0]
  apply wpS_seq
  apply wpS_region
  simp [wpOpsS, go_sem, recoverD, hu, Exit.thenS, d5, z5]
  apply wpS_seq
  apply wpS_region
  simp [wpOpsS, go_sem, hnot, Exit.thenS, e4]
  refine wpS_cond (t := false) (by simp [Act.eval, Array.replicate]) ?_
  simp only [Bool.false_eq_true, if_false]
  refine wpS_of_wp (wp_skip ?_)
  cases f₀
  simp_all [bodyPostS, results, Try.results31]

theorem Owns.mid {w : World} {B : Nat} {p q : List Row} {e : TypeId} {b n c : Nat} {xs : List Value} (h : Owns w B (p ++ ⟨e, some ⟨b, 0, none⟩, n, c, xs⟩ :: q)) (j : Nat) {v : Value} (hv : xs[j]? = some v) : w.cell? ⟨b, j, none⟩ = some v ∧ w.frozen? ⟨b, j, none⟩ = false := by
  have hj : j < xs.length := (List.getElem?_eq_some_iff.1 hv).1
  obtain ⟨b', hb, hc, hf, _⟩ := h.cellAt (e := e) (a := some ⟨b, 0, none⟩) (n := n) (c := c) (xs := xs) p.length (by simp) hj
  simp only [Option.some.injEq, Addr.mk.injEq, and_true] at hb
  subst hb
  exact ⟨hc.trans hv, hf⟩

theorem Owns.put {w : World} {B : Nat} {p q : List Row} {e : TypeId} {b n c : Nat} {xs : List Value} (h : Owns w B (p ++ ⟨e, some ⟨b, 0, none⟩, n, c, xs⟩ :: q)) (j : Nat) (u : Value) :
    Owns (w.setCell ⟨b, j, none⟩ u) B (p ++ ⟨e, some ⟨b, 0, none⟩, n, c, xs.set j u⟩ :: q) ∧ Below B w (w.setCell ⟨b, j, none⟩ u) := Owns.stored h rfl j u

/-- The record that OnceFunc makes: not run yet (st: the lock's word), and run. -/
def FreshF (fv : Value) (st : Int) : List Value := [fv, .int .u32 0, .int .i32 st, .int .u32 0, .bool false, .nilIface]
def RanF (done : Int) (st : Int) : List Value := [.nilFunc, .int .u32 done, .int .i32 st, .int .u32 0, .bool true, .nilIface]

/-- What the function handed to OnceFunc owes: the record as it was. -/
def GaveF (B : Nat) (w : World) (b : Nat) (fv : Value) (R : List Row → List Row → Prop) (e : Ending) (w2 : World) : Prop :=
  e = .returned (.tuple #[]) ∧ ∃ p' q', R p' q' ∧ Owns w2 B (p' ++ ⟨67, some ⟨b, 0, none⟩, 6, 6, (FreshF fv 1)⟩ :: q') ∧ Below B w w2

def KeptF (B : Nat) (w : World) (b : Nat) (R : List Row → List Row → Prop) (done st : Int) (w2 : World) : Prop :=
  ∃ p' q', R p' q' ∧ Owns w2 B (p' ++ ⟨67, some ⟨b, 0, none⟩, 6, 6, (RanF done st)⟩ :: q') ∧ Below B w w2

set_option maxRecDepth 100000 in
set_option maxHeartbeats 1600000 in
theorem body_anyF (w : World) (B b : Nat) (p q : List Row) (G : FuncId) (gcap : Array Value) (R : List Row → List Row → Prop)
    (hinv : ∀ w : World, (callFunc G gcap).run Try.prog w = .ok (.enter G gcap) w)
    (ho : Owns w B (p ++ ⟨67, some ⟨b, 0, none⟩, 6, 6, (FreshF (.func (.func G) #[] gcap) 1)⟩ :: q))
    (hG : Calls Try.prog G gcap w (GaveF B w b (.func (.func G) #[] gcap) R)) :
    Calls Try.prog 30 #[.pointer (some ⟨b, 0, none⟩)] w (Owed b 1 (KeptF B w b R 0 1)) := by
  have HG := Lib.hid hG
  have hmf : ∀ (fn : Fn) (first cap : Array Value) (w : World), (Instr.makeFunc fn first cap).run Try.prog w = .ok (.func fn first cap) w := fun _ _ _ _ => rfl
  have c0 := (ho.mid 0 rfl).1
  clear hG ho
  go_enter_defers Try.func30, Try.ntmps30
  go_wp2_with fail
  refine HG.out.mono ?_
  rintro e w2 ⟨rfl, p', q', hr, ho2, hb2⟩
  clear c0 HG
  have c4 := ho2.mid 4 rfl
  obtain ⟨ho4, hb4⟩ := ho2.put 4 (.bool true)
  have k0 := ho4.mid 0 rfl; have k4 := ho4.mid 4 rfl; have k5 := ho4.mid 5 rfl
  obtain ⟨ho5, hb5⟩ := ho4.put 0 .nilFunc
  obtain ⟨ho6, hb6⟩ := ho5.put 5 .nilIface
  have l1 := ho6.mid 1 rfl; have l2 := ho6.mid 2 rfl
  have HK : Hid (KeptF B w b R 0 1 (((w2.setCell ⟨b, 4, none⟩ (.bool true)).setCell ⟨b, 0, none⟩ .nilFunc).setCell ⟨b, 5, none⟩ .nilIface)) :=
    ⟨p', q', hr, ho6, hb2.trans (hb4.trans (hb5.trans hb6))⟩
  have L1 := Lib.hid l1; have L2 := Lib.hid l2; have K0 := Lib.hid k0; have K4 := Lib.hid k4; have K5 := Lib.hid k5
  obtain ⟨c4, z4⟩ := c4
  clear l1 l2 k0 k4 k5 ho2 ho4 ho5 ho6 hb2 hb4 hb5 hb6 hr
  go_wp2
  refine leaves_cons (f := 31) (args := #[.pointer (some ⟨b, 0, none⟩)]) (by simp) (by simp [go_sem]) ?_
  refine (catch_idleF b _ _ _ K0.out.1 K4.out.1 K5.out.1 K0.out.2 K5.out.2).mono ?_
  rintro e u' w'' ⟨rfl, rfl, rfl⟩
  simp only [Leaves, settle]
  exact ⟨.tuple #[], by simp [results, Try.results30], rfl, L1.out.1, L2.out.1, L1.out.2, L2.out.2, HK.out⟩

/-- What a call of the function leaves: the record run. -/
def ToldF (B : Nat) (w : World) (b : Nat) (R : List Row → List Row → Prop) (e : Ending) (w2 : World) : Prop :=
  e = .returned (.tuple #[]) ∧ KeptF B w b R 1 0 w2

theorem inv_bodyF (b : Nat) (w : World) : (callFunc 30 #[.pointer (some ⟨b, 0, none⟩)]).run Try.prog w = .ok (.enter 30 #[.pointer (some ⟨b, 0, none⟩)]) w := by simp [go_sem]

set_option maxRecDepth 100000 in
set_option maxHeartbeats 1600000 in
theorem value_firstF (w : World) (B b : Nat) (p q : List Row) (G : FuncId) (gcap : Array Value) (R : List Row → List Row → Prop)
    (hinv : ∀ w : World, (callFunc G gcap).run Try.prog w = .ok (.enter G gcap) w)
    (ho : Owns w B (p ++ ⟨67, some ⟨b, 0, none⟩, 6, 6, (FreshF (.func (.func G) #[] gcap) 0)⟩ :: q))
    (hG : ∀ w1, Owns w1 B (p ++ ⟨67, some ⟨b, 0, none⟩, 6, 6, (FreshF (.func (.func G) #[] gcap) 1)⟩ :: q) → Below B w w1 → Calls Try.prog G gcap w1 (GaveF B w1 b (.func (.func G) #[] gcap) R)) :
    Calls Try.prog 28 #[.pointer (some ⟨b, 0, none⟩)] w (ToldF B w b R) := by
  have hmf : ∀ (fn : Fn) (first cap : Array Value) (w : World), (Instr.makeFunc fn first cap).run Try.prog w = .ok (.func fn first cap) w := fun _ _ _ _ => rfl
  have hnot : ∀ (x : Bool) (w : World), (Op.unary .not (.bool x)).run Try.prog w = .ok (.bool (!x)) w := fun _ _ => rfl
  obtain ⟨ho1, hb1⟩ := ho.put 2 (.int .i32 1)
  have HD := Lib.hid (do_first b 1 30 #[.pointer (some ⟨b, 0, none⟩)] w (KeptF B (w.setCell ⟨b, 2, none⟩ (.int .i32 1)) b R 0 1) (inv_bodyF b) (ho.mid 1 rfl).1 (ho.mid 2 rfl).1 (ho.mid 1 rfl).2 (ho.mid 2 rfl).2
    (body_anyF _ B b p q G gcap R hinv ho1 (hG _ ho1 hb1)))
  have HB1 := Lib.hid hb1
  clear ho ho1 hb1 hG hinv
  go_enter Try.func28, Try.ntmps28
  go_wp2_with fail
  refine HD.out.mono ?_
  rintro e w' ⟨rfl, w2, ⟨p', q', hr, ho2, hb2⟩, _, _, rfl⟩
  obtain ⟨ho3, hb3⟩ := ho2.drew.put 1 (.int .u32 1)
  obtain ⟨ho4, hb4⟩ := ho3.put 2 (.int .i32 0)
  generalize hw : (w2.drew.setCell ⟨b, 1, none⟩ (.int .u32 1)).setCell ⟨b, 2, none⟩ (.int .i32 0) = w3 at *
  have HK : Hid (KeptF B w b R 1 0 w3) := ⟨p', q', hr, ho4, HB1.out.trans (hb2.drew.trans (hb3.trans hb4))⟩
  have c4 := (ho4.mid 4 rfl).1
  clear ho2 ho3 ho4 hb2 hb3 hb4 hr HD HB1 hw
  go_wp2
  go_end0
  exact ⟨rfl, HK.out⟩

theorem value_againF (w : World) (B b : Nat) (p q : List Row) (ho : Owns w B (p ++ ⟨67, some ⟨b, 0, none⟩, 6, 6, (RanF 1 0)⟩ :: q)) :
    Calls Try.prog 28 #[.pointer (some ⟨b, 0, none⟩)] w fun e w' => e = .returned (.tuple #[]) ∧ w = w' := by
  have hmf : ∀ (fn : Fn) (first cap : Array Value) (w : World), (Instr.makeFunc fn first cap).run Try.prog w = .ok (.func fn first cap) w := fun _ _ _ _ => rfl
  have hnot : ∀ (x : Bool) (w : World), (Op.unary .not (.bool x)).run Try.prog w = .ok (.bool (!x)) w := fun _ _ => rfl
  have HD := Lib.hid (do_done ⟨b, 1, none⟩ (.func (.func 30) #[] #[.pointer (some ⟨b, 0, none⟩)]) w (ho.mid 1 rfl).1)
  have c4 := (ho.mid 4 rfl).1
  clear ho
  go_enter Try.func28, Try.ntmps28
  go_wp2_with fail
  refine HD.out.mono ?_
  rintro e w' ⟨rfl, rfl⟩
  go_wp2
  go_end0
  exact ⟨rfl, rfl⟩

/-- 'sync.OnceFunc(f)': a new record, and the function that holds it. -/
theorem make_anyF (fn : Fn) (cap : Array Value) (w : World) :
    Calls Try.prog 18 #[.func fn #[] cap] w fun e w' => e = .returned (.func (.func 28) #[] #[.pointer (some ⟨w.heap.size, 0, none⟩)]) ∧ w.alloc (.cells (FreshF (.func fn #[] cap) 0).toArray 67) = w' := by
  have hmf : ∀ (fn : Fn) (first cap : Array Value) (w : World), (Instr.makeFunc fn first cap).run Try.prog w = .ok (.func fn first cap) w := fun _ _ _ _ => rfl
  go_enter Try.func18, Try.ntmps18
  go_wp2
  go_ret
  exact ⟨rfl, rfl⟩
end Go.Proofs.Ytjjmjjbeecmmlae
