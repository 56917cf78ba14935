/-
  No cell of these rows narrows 'for every input' (looked for: loops, veiled, ifaces, maps, wideKeys, modest, calm, conditions, laid).
  DERIVED. THE GIVEN ROWS OF THIS SEAT. 5 by the template 'for every input the law returns true; each argument reads behind the call as it read before'; 0 by the template 'total and deterministic' (their statements: YtjjmjjbeecmmlafTotals.lean).
  GIVEN WITH THE SEED: the statements are not yours to turn. If you find one false, say at which input.
  Laid BY PROGRAM, IN A SANDBOX (cutbox-rows.mjs): the forced cells as the released guide's own fill.sh prints them over the translation dc86a7c0c730c640… (all of the seat's roots in one cut). By AI agents, Wed Nov 11 2026. No macro, syntax, notation, axiom, sorry.
-/
import Derived.Test.YtjjmjjbeecmmlafChecked
import GoSem.Claim
import GoSem.ClaimJoined
import GoSem.ClaimMapViews
import Derived.JoinedTies
import Derived.KernelRfl
namespace Go.Proofs.Ytjjmjjbeecmmlaf
/- THE CELL 'sum', in the pinned program and in every row, IS THE sha256 OF THE DUMP (.gsa) THAT YtjjmjjbeecmmlafProg.lean LOADS. Nothing in Lean hashes anything: it is a label: what it is worth is what the hold of that sum in a sandbox is worth. -/
noncomputable def Try.pinned : Pinned := { name := "ytjjmjjbeecmmlaf", sum := "dc86a7c0c730c640531cd1cca6bb30a18b6c00d1d6765df1bc587b1b802f1e76", checked := Try.checked }
namespace Rows
def none {H : Type} : Left H := { results := [], args := [] }

/-- 'laws.FnExactOnceDo': WHATEVER THE INPUT: true; the input reads as it did. -/
def fnExactOnceDoSpec : ChangeSpec := { name := "fnExactOnceDo", fn := fun _ => fun
  | [d1, d2] => { results := [.lit (.bool true)], args := [d1, d2] }
  | _ => none }
def fnExactOnceDoRow : OpenClaim := { program := "ytjjmjjbeecmmlaf", sum := "dc86a7c0c730c640531cd1cca6bb30a18b6c00d1d6765df1bc587b1b802f1e76", func := "loop.example/lib-g01437/laws.FnExactOnceDo", spec := "fnExactOnceDo", inPlace := ["sync/atomic.AddUint64", "sync/atomic.LoadUint32", "(*internal/sync.Mutex).Lock", "internal/race.Disable", "sync/atomic.CompareAndSwapInt32", "internal/race.Enable", "internal/race.Acquire", "(*internal/sync.Mutex).lockSlow", "internal/sync.runtime_canSpin", "internal/sync.runtime_doSpin", "internal/sync.throw", "internal/sync.runtime_nanotime", "internal/sync.runtime_SemacquireMutex", "sync/atomic.AddInt32", "(*internal/sync.Mutex).Unlock", "internal/race.ReleaseMerge", "(*internal/sync.Mutex).unlockSlow", "internal/sync.fatal", "internal/sync.runtime_Semrelease", "sync/atomic.StoreUint32", "sync/atomic.LoadUint64"], unfollowed := true, recurses := true, apart := false }
def FnExactOnceDoSaid : Prop := fnExactOnceDoRow.holds Try.pinned (OpenSpec.ofChange fnExactOnceDoSpec)

/-- ITS FALSE NEIGHBOUR: 'it returns false'. Refute it at one input. -/
def fnExactOnceDoWrong : ChangeSpec := { name := "fnExactOnceDo", fn := fun _ => fun
  | [d1, d2] => { results := [.lit (.bool false)], args := [d1, d2] }
  | _ => none }
def FnExactOnceDoWrongFalsely : Prop := fnExactOnceDoRow.holds Try.pinned (OpenSpec.ofChange fnExactOnceDoWrong)

/-- 'laws.FnOnceGroups': WHATEVER THE INPUT: true; the input reads as it did. -/
def fnOnceGroupsSpec : ChangeSpec := { name := "fnOnceGroups", fn := fun _ => fun
  | [d1, d2] => { results := [.lit (.bool true)], args := [d1, d2] }
  | _ => none }
def fnOnceGroupsRow : OpenClaim := { program := "ytjjmjjbeecmmlaf", sum := "dc86a7c0c730c640531cd1cca6bb30a18b6c00d1d6765df1bc587b1b802f1e76", func := "loop.example/lib-g01437/laws.FnOnceGroups", spec := "fnOnceGroups", inPlace := ["sync/atomic.AddUint64", "sync/atomic.LoadUint32", "(*internal/sync.Mutex).Lock", "internal/race.Disable", "sync/atomic.CompareAndSwapInt32", "internal/race.Enable", "internal/race.Acquire", "(*internal/sync.Mutex).lockSlow", "internal/sync.runtime_canSpin", "internal/sync.runtime_doSpin", "internal/sync.throw", "internal/sync.runtime_nanotime", "internal/sync.runtime_SemacquireMutex", "sync/atomic.AddInt32", "(*internal/sync.Mutex).Unlock", "internal/race.ReleaseMerge", "(*internal/sync.Mutex).unlockSlow", "internal/sync.fatal", "internal/sync.runtime_Semrelease", "sync/atomic.StoreUint32", "sync/atomic.LoadUint64"], unfollowed := true, recurses := true, apart := false }
def FnOnceGroupsSaid : Prop := fnOnceGroupsRow.holds Try.pinned (OpenSpec.ofChange fnOnceGroupsSpec)

/-- ITS FALSE NEIGHBOUR: 'it returns false'. Refute it at one input. -/
def fnOnceGroupsWrong : ChangeSpec := { name := "fnOnceGroups", fn := fun _ => fun
  | [d1, d2] => { results := [.lit (.bool false)], args := [d1, d2] }
  | _ => none }
def FnOnceGroupsWrongFalsely : Prop := fnOnceGroupsRow.holds Try.pinned (OpenSpec.ofChange fnOnceGroupsWrong)

/-- 'laws.FnOnceGroupsNamed': WHATEVER THE INPUT: true; the input reads as it did. -/
def fnOnceGroupsNamedSpec : ChangeSpec := { name := "fnOnceGroupsNamed", fn := fun _ => fun
  | [d1, d2, d3] => { results := [.lit (.bool true)], args := [d1, d2, d3] }
  | _ => none }
def fnOnceGroupsNamedRow : OpenClaim := { program := "ytjjmjjbeecmmlaf", sum := "dc86a7c0c730c640531cd1cca6bb30a18b6c00d1d6765df1bc587b1b802f1e76", func := "loop.example/lib-g01437/laws.FnOnceGroupsNamed", spec := "fnOnceGroupsNamed", inPlace := ["sync/atomic.AddUint64", "sync/atomic.LoadUint32", "(*internal/sync.Mutex).Lock", "internal/race.Disable", "sync/atomic.CompareAndSwapInt32", "internal/race.Enable", "internal/race.Acquire", "(*internal/sync.Mutex).lockSlow", "internal/sync.runtime_canSpin", "internal/sync.runtime_doSpin", "internal/sync.throw", "internal/sync.runtime_nanotime", "internal/sync.runtime_SemacquireMutex", "sync/atomic.AddInt32", "(*internal/sync.Mutex).Unlock", "internal/race.ReleaseMerge", "(*internal/sync.Mutex).unlockSlow", "internal/sync.fatal", "internal/sync.runtime_Semrelease", "sync/atomic.StoreUint32", "sync/atomic.LoadUint64"], unfollowed := true, recurses := true, apart := false }
def FnOnceGroupsNamedSaid : Prop := fnOnceGroupsNamedRow.holds Try.pinned (OpenSpec.ofChange fnOnceGroupsNamedSpec)

/-- ITS FALSE NEIGHBOUR: 'it returns false'. Refute it at one input. -/
def fnOnceGroupsNamedWrong : ChangeSpec := { name := "fnOnceGroupsNamed", fn := fun _ => fun
  | [d1, d2, d3] => { results := [.lit (.bool false)], args := [d1, d2, d3] }
  | _ => none }
def FnOnceGroupsNamedWrongFalsely : Prop := fnOnceGroupsNamedRow.holds Try.pinned (OpenSpec.ofChange fnOnceGroupsNamedWrong)

/-- 'laws.FnOnceTicketsInOrder': WHATEVER THE INPUT: true; the input reads as it did. -/
def fnOnceTicketsInOrderSpec : ChangeSpec := { name := "fnOnceTicketsInOrder", fn := fun _ => fun
  | [d1, d2] => { results := [.lit (.bool true)], args := [d1, d2] }
  | _ => none }
def fnOnceTicketsInOrderRow : OpenClaim := { program := "ytjjmjjbeecmmlaf", sum := "dc86a7c0c730c640531cd1cca6bb30a18b6c00d1d6765df1bc587b1b802f1e76", func := "loop.example/lib-g01437/laws.FnOnceTicketsInOrder", spec := "fnOnceTicketsInOrder", inPlace := ["sync/atomic.AddUint64", "sync/atomic.LoadUint32", "(*internal/sync.Mutex).Lock", "internal/race.Disable", "sync/atomic.CompareAndSwapInt32", "internal/race.Enable", "internal/race.Acquire", "(*internal/sync.Mutex).lockSlow", "internal/sync.runtime_canSpin", "internal/sync.runtime_doSpin", "internal/sync.throw", "internal/sync.runtime_nanotime", "internal/sync.runtime_SemacquireMutex", "sync/atomic.AddInt32", "(*internal/sync.Mutex).Unlock", "internal/race.ReleaseMerge", "(*internal/sync.Mutex).unlockSlow", "internal/sync.fatal", "internal/sync.runtime_Semrelease", "sync/atomic.StoreUint32", "sync/atomic.LoadUint64"], unfollowed := true, recurses := true, apart := false }
def FnOnceTicketsInOrderSaid : Prop := fnOnceTicketsInOrderRow.holds Try.pinned (OpenSpec.ofChange fnOnceTicketsInOrderSpec)

/-- ITS FALSE NEIGHBOUR: 'it returns false'. Refute it at one input. -/
def fnOnceTicketsInOrderWrong : ChangeSpec := { name := "fnOnceTicketsInOrder", fn := fun _ => fun
  | [d1, d2] => { results := [.lit (.bool false)], args := [d1, d2] }
  | _ => none }
def FnOnceTicketsInOrderWrongFalsely : Prop := fnOnceTicketsInOrderRow.holds Try.pinned (OpenSpec.ofChange fnOnceTicketsInOrderWrong)

/-- 'laws.FnOnceSwapsAlong': WHATEVER THE INPUT: true; the input reads as it did. -/
def fnOnceSwapsAlongSpec : ChangeSpec := { name := "fnOnceSwapsAlong", fn := fun _ => fun
  | [d1, d2, d3] => { results := [.lit (.bool true)], args := [d1, d2, d3] }
  | _ => none }
def fnOnceSwapsAlongRow : OpenClaim := { program := "ytjjmjjbeecmmlaf", sum := "dc86a7c0c730c640531cd1cca6bb30a18b6c00d1d6765df1bc587b1b802f1e76", func := "loop.example/lib-g01437/laws.FnOnceSwapsAlong", spec := "fnOnceSwapsAlong", inPlace := ["sync/atomic.StoreUint64", "sync/atomic.SwapUint64", "sync/atomic.LoadUint32", "(*internal/sync.Mutex).Lock", "internal/race.Disable", "sync/atomic.CompareAndSwapInt32", "internal/race.Enable", "internal/race.Acquire", "(*internal/sync.Mutex).lockSlow", "internal/sync.runtime_canSpin", "internal/sync.runtime_doSpin", "internal/sync.throw", "internal/sync.runtime_nanotime", "internal/sync.runtime_SemacquireMutex", "sync/atomic.AddInt32", "(*internal/sync.Mutex).Unlock", "internal/race.ReleaseMerge", "(*internal/sync.Mutex).unlockSlow", "internal/sync.fatal", "internal/sync.runtime_Semrelease", "sync/atomic.StoreUint32", "sync/atomic.LoadUint64"], unfollowed := true, recurses := true, apart := false }
def FnOnceSwapsAlongSaid : Prop := fnOnceSwapsAlongRow.holds Try.pinned (OpenSpec.ofChange fnOnceSwapsAlongSpec)

/-- ITS FALSE NEIGHBOUR: 'it returns false'. Refute it at one input. -/
def fnOnceSwapsAlongWrong : ChangeSpec := { name := "fnOnceSwapsAlong", fn := fun _ => fun
  | [d1, d2, d3] => { results := [.lit (.bool false)], args := [d1, d2, d3] }
  | _ => none }
def FnOnceSwapsAlongWrongFalsely : Prop := fnOnceSwapsAlongRow.holds Try.pinned (OpenSpec.ofChange fnOnceSwapsAlongWrong)

/- THE SECOND FORM. 'bulk': how many values and letters a reading holds, each counted each time it is reached (what is shared counts as often as it is met; a slice's spare places count too). A statement '..UptoSaid' is the law's where the arguments, and the package variables that the reading takes, are together of bulk at most 1048576: NARROWER than '..Said'. Prove '..Said' where nothing that the law and all that it calls make is longer than what came in: it says more and counts as full. Else prove '..UptoSaid'. A law counts once. -/
mutual
def uptoBulk {H : Type} : DataW H → Nat
  | .lit (.string bytes) => bytes.length + 1
  | .lit _ => 1
  | .nil => 1
  | .ptr d => uptoBulk d + 1
  | .slice elems spare => uptoBulkAll elems + uptoBulkAll spare + 1
  | .agg parts => uptoBulkAll parts + 1
  | .iface _ d => uptoBulk d + 1
  | .map entries => uptoBulkEntries entries + 1
  | .held _ => 1
def uptoBulkAll {H : Type} : List (DataW H) → Nat
  | [] => 0
  | d :: r => uptoBulk d + uptoBulkAll r
def uptoBulkEntries {H : Type} : List (Lit × DataW H) → Nat
  | [] => 0
  | x :: r => uptoBulkEntry x + uptoBulkEntries r
def uptoBulkEntry {H : Type} : Lit × DataW H → Nat
  | (.string bytes, d) => bytes.length + uptoBulk d + 1
  | (_, d) => uptoBulk d + 1
 end
def uptoSmall : (H : Type) → List (DataW H) → Bool := fun _ ds => decide (uptoBulkAll ds ≤ 1048576)
def OpenSpec.upto (s : _root_.Go.ChangeSpec) : _root_.Go.OpenSpec := { _root_.Go.OpenSpec.ofChange s with cond := some uptoSmall }

/-- 'laws.FnExactOnceDo', WHERE WHAT IT READS IS OF BULK AT MOST 1048576: true; the input reads as it did. -/
def fnExactOnceDoUptoRow : OpenClaim := { program := "ytjjmjjbeecmmlaf", sum := "dc86a7c0c730c640531cd1cca6bb30a18b6c00d1d6765df1bc587b1b802f1e76", func := "loop.example/lib-g01437/laws.FnExactOnceDo", spec := "fnExactOnceDo", inPlace := ["sync/atomic.AddUint64", "sync/atomic.LoadUint32", "(*internal/sync.Mutex).Lock", "internal/race.Disable", "sync/atomic.CompareAndSwapInt32", "internal/race.Enable", "internal/race.Acquire", "(*internal/sync.Mutex).lockSlow", "internal/sync.runtime_canSpin", "internal/sync.runtime_doSpin", "internal/sync.throw", "internal/sync.runtime_nanotime", "internal/sync.runtime_SemacquireMutex", "sync/atomic.AddInt32", "(*internal/sync.Mutex).Unlock", "internal/race.ReleaseMerge", "(*internal/sync.Mutex).unlockSlow", "internal/sync.fatal", "internal/sync.runtime_Semrelease", "sync/atomic.StoreUint32", "sync/atomic.LoadUint64"], unfollowed := true, recurses := true, apart := false, narrowed := true }
def FnExactOnceDoUptoSaid : Prop := fnExactOnceDoUptoRow.holds Try.pinned (OpenSpec.upto fnExactOnceDoSpec)

/-- 'laws.FnOnceGroups', WHERE WHAT IT READS IS OF BULK AT MOST 1048576: true; the input reads as it did. -/
def fnOnceGroupsUptoRow : OpenClaim := { program := "ytjjmjjbeecmmlaf", sum := "dc86a7c0c730c640531cd1cca6bb30a18b6c00d1d6765df1bc587b1b802f1e76", func := "loop.example/lib-g01437/laws.FnOnceGroups", spec := "fnOnceGroups", inPlace := ["sync/atomic.AddUint64", "sync/atomic.LoadUint32", "(*internal/sync.Mutex).Lock", "internal/race.Disable", "sync/atomic.CompareAndSwapInt32", "internal/race.Enable", "internal/race.Acquire", "(*internal/sync.Mutex).lockSlow", "internal/sync.runtime_canSpin", "internal/sync.runtime_doSpin", "internal/sync.throw", "internal/sync.runtime_nanotime", "internal/sync.runtime_SemacquireMutex", "sync/atomic.AddInt32", "(*internal/sync.Mutex).Unlock", "internal/race.ReleaseMerge", "(*internal/sync.Mutex).unlockSlow", "internal/sync.fatal", "internal/sync.runtime_Semrelease", "sync/atomic.StoreUint32", "sync/atomic.LoadUint64"], unfollowed := true, recurses := true, apart := false, narrowed := true }
def FnOnceGroupsUptoSaid : Prop := fnOnceGroupsUptoRow.holds Try.pinned (OpenSpec.upto fnOnceGroupsSpec)

/-- 'laws.FnOnceGroupsNamed', WHERE WHAT IT READS IS OF BULK AT MOST 1048576: true; the input reads as it did. -/
def fnOnceGroupsNamedUptoRow : OpenClaim := { program := "ytjjmjjbeecmmlaf", sum := "dc86a7c0c730c640531cd1cca6bb30a18b6c00d1d6765df1bc587b1b802f1e76", func := "loop.example/lib-g01437/laws.FnOnceGroupsNamed", spec := "fnOnceGroupsNamed", inPlace := ["sync/atomic.AddUint64", "sync/atomic.LoadUint32", "(*internal/sync.Mutex).Lock", "internal/race.Disable", "sync/atomic.CompareAndSwapInt32", "internal/race.Enable", "internal/race.Acquire", "(*internal/sync.Mutex).lockSlow", "internal/sync.runtime_canSpin", "internal/sync.runtime_doSpin", "internal/sync.throw", "internal/sync.runtime_nanotime", "internal/sync.runtime_SemacquireMutex", "sync/atomic.AddInt32", "(*internal/sync.Mutex).Unlock", "internal/race.ReleaseMerge", "(*internal/sync.Mutex).unlockSlow", "internal/sync.fatal", "internal/sync.runtime_Semrelease", "sync/atomic.StoreUint32", "sync/atomic.LoadUint64"], unfollowed := true, recurses := true, apart := false, narrowed := true }
def FnOnceGroupsNamedUptoSaid : Prop := fnOnceGroupsNamedUptoRow.holds Try.pinned (OpenSpec.upto fnOnceGroupsNamedSpec)

/-- 'laws.FnOnceTicketsInOrder', WHERE WHAT IT READS IS OF BULK AT MOST 1048576: true; the input reads as it did. -/
def fnOnceTicketsInOrderUptoRow : OpenClaim := { program := "ytjjmjjbeecmmlaf", sum := "dc86a7c0c730c640531cd1cca6bb30a18b6c00d1d6765df1bc587b1b802f1e76", func := "loop.example/lib-g01437/laws.FnOnceTicketsInOrder", spec := "fnOnceTicketsInOrder", inPlace := ["sync/atomic.AddUint64", "sync/atomic.LoadUint32", "(*internal/sync.Mutex).Lock", "internal/race.Disable", "sync/atomic.CompareAndSwapInt32", "internal/race.Enable", "internal/race.Acquire", "(*internal/sync.Mutex).lockSlow", "internal/sync.runtime_canSpin", "internal/sync.runtime_doSpin", "internal/sync.throw", "internal/sync.runtime_nanotime", "internal/sync.runtime_SemacquireMutex", "sync/atomic.AddInt32", "(*internal/sync.Mutex).Unlock", "internal/race.ReleaseMerge", "(*internal/sync.Mutex).unlockSlow", "internal/sync.fatal", "internal/sync.runtime_Semrelease", "sync/atomic.StoreUint32", "sync/atomic.LoadUint64"], unfollowed := true, recurses := true, apart := false, narrowed := true }
def FnOnceTicketsInOrderUptoSaid : Prop := fnOnceTicketsInOrderUptoRow.holds Try.pinned (OpenSpec.upto fnOnceTicketsInOrderSpec)

/-- 'laws.FnOnceSwapsAlong', WHERE WHAT IT READS IS OF BULK AT MOST 1048576: true; the input reads as it did. -/
def fnOnceSwapsAlongUptoRow : OpenClaim := { program := "ytjjmjjbeecmmlaf", sum := "dc86a7c0c730c640531cd1cca6bb30a18b6c00d1d6765df1bc587b1b802f1e76", func := "loop.example/lib-g01437/laws.FnOnceSwapsAlong", spec := "fnOnceSwapsAlong", inPlace := ["sync/atomic.StoreUint64", "sync/atomic.SwapUint64", "sync/atomic.LoadUint32", "(*internal/sync.Mutex).Lock", "internal/race.Disable", "sync/atomic.CompareAndSwapInt32", "internal/race.Enable", "internal/race.Acquire", "(*internal/sync.Mutex).lockSlow", "internal/sync.runtime_canSpin", "internal/sync.runtime_doSpin", "internal/sync.throw", "internal/sync.runtime_nanotime", "internal/sync.runtime_SemacquireMutex", "sync/atomic.AddInt32", "(*internal/sync.Mutex).Unlock", "internal/race.ReleaseMerge", "(*internal/sync.Mutex).unlockSlow", "internal/sync.fatal", "internal/sync.runtime_Semrelease", "sync/atomic.StoreUint32", "sync/atomic.LoadUint64"], unfollowed := true, recurses := true, apart := false, narrowed := true }
def FnOnceSwapsAlongUptoSaid : Prop := fnOnceSwapsAlongUptoRow.holds Try.pinned (OpenSpec.upto fnOnceSwapsAlongSpec)

end Rows
end Go.Proofs.Ytjjmjjbeecmmlaf
