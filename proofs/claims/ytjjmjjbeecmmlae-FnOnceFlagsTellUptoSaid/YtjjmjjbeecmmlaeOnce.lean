/-
  The contracts of sync.Once within one goroutine: Do of a Once that is not done runs the function; of one that is done does nothing.
-/
import Derived.Test.YtjjmjjbeecmmlaeProg
import Derived.Test.YtjjmjjbeecmmlaeLib
import Derived.Tactics
import Derived.Tactics2
import Derived.Defers
import Derived.Recover
import Derived.Laws.Pointers
import Derived.Laws.LoneSync
import Derived.Laws.EntriesVeiled
import Derived.RegionTactic
import Derived.RegionCalls
import Derived.ChangeAlike
namespace Go.Proofs.Ytjjmjjbeecmmlae
set_option linter.unusedVariables false
set_option linter.unusedSimpArgs false
open Go.RowKit

theorem disable (w : World) : (callFunc 50 #[]).run Try.prog w = .ok (.value (.tuple #[])) w := run_call_mark0 Try.func50 (by kernel_rfl) (by kernel_rfl) (by kernel_rfl) .disable (by kernel_rfl) w
theorem enable (w : World) : (callFunc 52 #[]).run Try.prog w = .ok (.value (.tuple #[])) w := run_call_mark0 Try.func52 (by kernel_rfl) (by kernel_rfl) (by kernel_rfl) .enable (by kernel_rfl) w
theorem acquire (a : Addr) (w : World) : (callFunc 53 #[.pointer (some a)]).run Try.prog w = .ok (.value (.tuple #[])) w := run_call_marked Try.func53 (by kernel_rfl) (by kernel_rfl) (by kernel_rfl) .acquire (by kernel_rfl) a w
theorem releaseMerge (a : Addr) (w : World) : (callFunc 55 #[.pointer (some a)]).run Try.prog w = .ok (.value (.tuple #[])) w := run_call_marked Try.func55 (by kernel_rfl) (by kernel_rfl) (by kernel_rfl) .releaseMerge (by kernel_rfl) a w

/-- '(*sync/atomic.Bool).Store(true)', entered as a deferred call. -/
theorem store_deferred (a : Addr) (x : Value) (u : FrameMode) (w : World) (hc : w.cell? a = some x) (hz : w.frozen? a = false) :
    CallsD Try.prog 45 #[.pointer (some a), .bool true] u w fun e u' w' => u' = u ∧ (e = .returned (.tuple #[]) ∧ w' = w.drew.setCell a (.int .u32 1)) := by
  have hc' : w.drew.cell? a = some x := by go_simp
  have hz' : w.drew.frozen? a = false := by go_simp
  have hst := run_call_store (P := Try.prog) Try.func48 (by kernel_rfl) (by kernel_rfl) (by kernel_rfl) (by kernel_rfl) (k := .u32) (y := 1) hc' hz'
  go_enter_d Try.func45, Try.ntmps45
  go_wp2
  go_region_calls
  all_goals (go_end0; exact ⟨rfl, rfl⟩)

/-- '(*sync.Mutex).Unlock', entered as a deferred call, the lock held and nobody waiting. -/
theorem unlock_deferred (a : Addr) (u : FrameMode) (w : World) (hc : w.cell? a = some (.int .i32 1)) (hz : w.frozen? a = false) :
    CallsD Try.prog 44 #[.pointer (some a)] u w fun e u' w' => u' = u ∧ (e = .returned (.tuple #[]) ∧ w' = w.setCell a (.int .i32 0)) := by
  have hd := disable
  have he := enable
  have hr := releaseMerge
  have hadd := run_call_add (P := Try.prog) Try.func56 (by kernel_rfl) (by kernel_rfl) (by kernel_rfl) .i32 (by kernel_rfl) (y := -1) (s := 0) hc hz (by simp [go_sem]; rfl)
  have hcv := run_convert_to_unsafe (P := Try.prog) (src := 84) (dst := 88) Try.underlying84 Try.underlying88 (by kernel_rfl) hc
  go_enter_d Try.func44, Try.ntmps44
  go_wp2
  go_end0
  go_wp2
  go_end0
  exact ⟨rfl, rfl⟩

/-- '(*sync.Mutex).Lock', the lock free. -/
theorem lock_free (a : Addr) (w : World) (hc : w.cell? a = some (.int .i32 0)) (hz : w.frozen? a = false) :
    Calls Try.prog 43 #[.pointer (some a)] w fun e w' => e = .returned (.tuple #[]) ∧ w' = w.setCell a (.int .i32 1) := by
  have hd := disable
  have he := enable
  have ha := acquire
  have hcas := run_call_cas_hit (P := Try.prog) Try.func51 (by kernel_rfl) (by kernel_rfl) (by kernel_rfl) .i32 (by kernel_rfl) (y := 1) hc hz
  have hc' : (w.setCell a (.int .i32 1)).cell? a = some (.int .i32 1) := World.cell?_setCell_same w a _ hc
  have hcv := run_convert_to_unsafe (P := Try.prog) (src := 84) (dst := 88) Try.underlying84 Try.underlying88 (by kernel_rfl) hc'
  go_enter Try.func43, Try.ntmps43
  go_wp2
  first | go_end0 | (simp only [Exit.inBlock, Exit.then]; refine bodyPost_ret (results_none rfl _ _ _) rfl ?_) | refine bodyPost_ret (results_none rfl _ _ _) rfl ?_
  go_wp2
  go_end0
  exact ⟨rfl, rfl⟩

/-- What Do leaves when it has run the function: the function's world, 'done' set, the lock let go. -/
def OnceRan (b off : Nat) (Q : World → Prop) (e : Ending) (w' : World) : Prop :=
  e = .returned (.tuple #[]) ∧ ∃ w2, Q w2 ∧ w2.cell? ⟨b, off, none⟩ = some (.int .u32 0) ∧ w2.cell? ⟨b, off + 1, none⟩ = some (.int .i32 1) ∧ (w2.drew.setCell ⟨b, off, none⟩ (.int .u32 1)).setCell ⟨b, off + 1, none⟩ (.int .i32 0) = w'

/-- What the function handed to Do owes. -/
def Owed (b off : Nat) (Q : World → Prop) (e : Ending) (w2 : World) : Prop :=
  e = .returned (.tuple #[]) ∧ w2.cell? ⟨b, off, none⟩ = some (.int .u32 0) ∧ w2.cell? ⟨b, off + 1, none⟩ = some (.int .i32 1) ∧ w2.frozen? ⟨b, off, none⟩ = false ∧ w2.frozen? ⟨b, off + 1, none⟩ = false ∧ Q w2

set_option maxRecDepth 100000 in
set_option maxHeartbeats 1600000 in
theorem slow_any (b off : Nat) (F : FuncId) (cap : Array Value) (w : World) (Q : World → Prop)
    (hinv : ∀ w : World, (callFunc F cap).run Try.prog w = .ok (.enter F cap) w)
    (h0 : w.cell? ⟨b, off, none⟩ = some (.int .u32 0)) (h1 : w.cell? ⟨b, off + 1, none⟩ = some (.int .i32 0)) (f0 : w.frozen? ⟨b, off, none⟩ = false) (f1 : w.frozen? ⟨b, off + 1, none⟩ = false)
    (hF : Calls Try.prog F cap (w.setCell ⟨b, off + 1, none⟩ (.int .i32 1)) (Owed b off Q)) :
    Calls Try.prog 41 #[.pointer (some ⟨b, off, none⟩), .func (.func F) #[] cap] w (OnceRan b off Q) := by
  have HF := Lib.hid hF
  clear hF
  have hl := run_call_load (P := Try.prog) Try.func42 (by kernel_rfl) (by kernel_rfl) (by kernel_rfl) .u32 (by kernel_rfl) (w := w.setCell ⟨b, off + 1, none⟩ (.int .i32 1)) (a := ⟨b, off, none⟩) (x := 0) ((World.cell?_setCell_other _ ⟨b, off + 1, none⟩ ⟨b, off, none⟩ _ (by simp)).trans h0)
  have hnot : ∀ (x : Bool) (w : World), (Op.unary .not (.bool x)).run Try.prog w = .ok (.bool (!x)) w := fun _ _ => rfl
  go_enter_defers Try.func41, Try.ntmps41
  go_wp2_with (first | (go_at_call 43; refine (lock_free ⟨b, off + 1, none⟩ _ (by go_simp) (by go_simp)).mono ?_; rintro e w' ⟨rfl, rfl⟩) | (go_at_call 40; go_in))
  refine HF.out.mono ?_
  rintro e w2 ⟨rfl, g0, g1, z0, z1, hq⟩
  clear HF hl
  have HQ := Lib.hid hq
  clear hq
  go_wp2
  -- the door: two deferred calls, the last laid first
  refine leaves_cons (f := 45) (args := #[.pointer (some ⟨b, off, none⟩), .bool true]) (by simp) (by simp [go_sem]) ?_
  refine (store_deferred ⟨b, off, none⟩ (.int .u32 0) .returning _ g0 z0).mono ?_
  rintro e u' w'' ⟨rfl, rfl, rfl⟩
  refine leaves_cons (f := 44) (args := #[.pointer (some ⟨b, off + 1, none⟩)]) (by simp [settle]) (by simp [go_sem]) ?_
  refine (unlock_deferred ⟨b, off + 1, none⟩ _ _ ?_ (by simp [z1])).mono ?_
  · refine (World.cell?_setCell_other _ ⟨b, off, none⟩ ⟨b, off + 1, none⟩ _ (by simp)).trans ?_
    rw [World.cell?_drew]
    exact g1
  rintro e u' w'' ⟨rfl, rfl, rfl⟩
  simp only [Leaves, settle]
  exact ⟨.tuple #[], by simp [results, Try.results41], rfl, w2, HQ.out, g0, g1, rfl⟩

set_option maxRecDepth 100000 in
set_option maxHeartbeats 1600000 in
/-- '(*sync.Once).Do', not yet done, the lock free. -/
theorem do_first (b off : Nat) (F : FuncId) (cap : Array Value) (w : World) (Q : World → Prop)
    (hinv : ∀ w : World, (callFunc F cap).run Try.prog w = .ok (.enter F cap) w)
    (h0 : w.cell? ⟨b, off, none⟩ = some (.int .u32 0)) (h1 : w.cell? ⟨b, off + 1, none⟩ = some (.int .i32 0)) (f0 : w.frozen? ⟨b, off, none⟩ = false) (f1 : w.frozen? ⟨b, off + 1, none⟩ = false)
    (hF : Calls Try.prog F cap (w.setCell ⟨b, off + 1, none⟩ (.int .i32 1)) (Owed b off Q)) :
    Calls Try.prog 29 #[.pointer (some ⟨b, off, none⟩), .func (.func F) #[] cap] w (OnceRan b off Q) := by
  have HS := Lib.hid (slow_any b off F cap w Q hinv h0 h1 f0 f1 hF)
  clear hF hinv
  have hl := run_call_load (P := Try.prog) Try.func42 (by kernel_rfl) (by kernel_rfl) (by kernel_rfl) .u32 (by kernel_rfl) h0
  have hnot : ∀ (x : Bool) (w : World), (Op.unary .not (.bool x)).run Try.prog w = .ok (.bool (!x)) w := fun _ _ => rfl
  go_enter Try.func29, Try.ntmps29
  go_wp2_with (first | (go_at_call 41; refine HS.out.mono ?_; rintro e w' ⟨rfl, hx⟩) | (go_at_call 40; go_in))
  have HX := Lib.hid hx
  clear hx HS
  go_end0
  exact ⟨rfl, HX.out⟩

/-- '(*sync.Once).Do', done already: the function is not called. -/
theorem do_done (a : Addr) (fv : Value) (w : World) (h0 : w.cell? a = some (.int .u32 1)) :
    Calls Try.prog 29 #[.pointer (some a), fv] w fun e w' => e = .returned (.tuple #[]) ∧ w = w' := by
  have hl := run_call_load (P := Try.prog) Try.func42 (by kernel_rfl) (by kernel_rfl) (by kernel_rfl) .u32 (by kernel_rfl) h0
  have hnot : ∀ (x : Bool) (w : World), (Op.unary .not (.bool x)).run Try.prog w = .ok (.bool (!x)) w := fun _ _ => rfl
  go_enter Try.func29, Try.ntmps29
  go_wp2
  go_end0
  exact ⟨rfl, rfl⟩
end Go.Proofs.Ytjjmjjbeecmmlae
