/-
  No cell of these rows narrows 'for every input' (looked for: loops, veiled, ifaces, maps, wideKeys, modest, calm, conditions, laid).
  DERIVED. THE GIVEN ROWS OF THIS SEAT. 6 by the template 'for every input the law returns true; each argument reads behind the call as it read before'; 0 by the template 'total and deterministic' (their statements: YtjjmjjbeecmmladTotals.lean).
  GIVEN WITH THE SEED: the statements are not yours to turn. If you find one false, say at which input.
  Laid BY PROGRAM, IN A SANDBOX (cutbox-rows.mjs): the forced cells as the released guide's own fill.sh prints them over the translation fdf04112cb639bf9… (all of the seat's roots in one cut). By AI agents, Wed Nov 11 2026. No macro, syntax, notation, axiom, sorry.
-/
import Derived.Test.YtjjmjjbeecmmladChecked
import GoSem.Claim
import GoSem.ClaimJoined
import GoSem.ClaimMapViews
import Derived.JoinedTies
import Derived.KernelRfl
namespace Go.Proofs.Ytjjmjjbeecmmlad
/- THE CELL 'sum', in the pinned program and in every row, IS THE sha256 OF THE DUMP (.gsa) THAT YtjjmjjbeecmmladProg.lean LOADS. Nothing in Lean hashes anything: it is a label: what it is worth is what the hold of that sum in a sandbox is worth. -/
noncomputable def Try.pinned : Pinned := { name := "ytjjmjjbeecmmlad", sum := "fdf04112cb639bf982af17d136ca45716ec19966c1c6bda5d1ba3f63151f1b82", checked := Try.checked }
namespace Rows
def none {H : Type} : Left H := { results := [], args := [] }

/-- 'laws.FnOnceTreeSums': WHATEVER THE INPUT: true; the input reads as it did. -/
def fnOnceTreeSumsSpec : ChangeSpec := { name := "fnOnceTreeSums", fn := fun _ => fun
  | [d1, d2, d3, d4] => { results := [.lit (.bool true)], args := [d1, d2, d3, d4] }
  | _ => none }
def fnOnceTreeSumsRow : OpenClaim := { program := "ytjjmjjbeecmmlad", sum := "fdf04112cb639bf982af17d136ca45716ec19966c1c6bda5d1ba3f63151f1b82", func := "loop.example/lib-g01437/laws.FnOnceTreeSums", spec := "fnOnceTreeSums", inPlace := ["sync/atomic.AddUint64", "sync/atomic.LoadUint32", "(*internal/sync.Mutex).Lock", "internal/race.Disable", "sync/atomic.CompareAndSwapInt32", "internal/race.Enable", "internal/race.Acquire", "(*internal/sync.Mutex).lockSlow", "internal/sync.runtime_canSpin", "internal/sync.runtime_doSpin", "internal/sync.throw", "internal/sync.runtime_nanotime", "internal/sync.runtime_SemacquireMutex", "sync/atomic.AddInt32", "(*internal/sync.Mutex).Unlock", "internal/race.ReleaseMerge", "(*internal/sync.Mutex).unlockSlow", "internal/sync.fatal", "internal/sync.runtime_Semrelease", "sync/atomic.StoreUint32", "sync/atomic.LoadUint64"], unfollowed := true, recurses := true, apart := false }
def FnOnceTreeSumsSaid : Prop := fnOnceTreeSumsRow.holds Try.pinned (OpenSpec.ofChange fnOnceTreeSumsSpec)

/-- ITS FALSE NEIGHBOUR: 'it returns false'. Refute it at one input. -/
def fnOnceTreeSumsWrong : ChangeSpec := { name := "fnOnceTreeSums", fn := fun _ => fun
  | [d1, d2, d3, d4] => { results := [.lit (.bool false)], args := [d1, d2, d3, d4] }
  | _ => none }
def FnOnceTreeSumsWrongFalsely : Prop := fnOnceTreeSumsRow.holds Try.pinned (OpenSpec.ofChange fnOnceTreeSumsWrong)

/-- 'laws.FnOnceTreeTurned': WHATEVER THE INPUT: true; the input reads as it did. -/
def fnOnceTreeTurnedSpec : ChangeSpec := { name := "fnOnceTreeTurned", fn := fun _ => fun
  | [d1, d2, d3] => { results := [.lit (.bool true)], args := [d1, d2, d3] }
  | _ => none }
def fnOnceTreeTurnedRow : OpenClaim := { program := "ytjjmjjbeecmmlad", sum := "fdf04112cb639bf982af17d136ca45716ec19966c1c6bda5d1ba3f63151f1b82", func := "loop.example/lib-g01437/laws.FnOnceTreeTurned", spec := "fnOnceTreeTurned", inPlace := ["sync/atomic.AddUint64", "sync/atomic.LoadUint32", "(*internal/sync.Mutex).Lock", "internal/race.Disable", "sync/atomic.CompareAndSwapInt32", "internal/race.Enable", "internal/race.Acquire", "(*internal/sync.Mutex).lockSlow", "internal/sync.runtime_canSpin", "internal/sync.runtime_doSpin", "internal/sync.throw", "internal/sync.runtime_nanotime", "internal/sync.runtime_SemacquireMutex", "sync/atomic.AddInt32", "(*internal/sync.Mutex).Unlock", "internal/race.ReleaseMerge", "(*internal/sync.Mutex).unlockSlow", "internal/sync.fatal", "internal/sync.runtime_Semrelease", "sync/atomic.StoreUint32", "sync/atomic.LoadUint64"], unfollowed := true, recurses := true, apart := false }
def FnOnceTreeTurnedSaid : Prop := fnOnceTreeTurnedRow.holds Try.pinned (OpenSpec.ofChange fnOnceTreeTurnedSpec)

/-- ITS FALSE NEIGHBOUR: 'it returns false'. Refute it at one input. -/
def fnOnceTreeTurnedWrong : ChangeSpec := { name := "fnOnceTreeTurned", fn := fun _ => fun
  | [d1, d2, d3] => { results := [.lit (.bool false)], args := [d1, d2, d3] }
  | _ => none }
def FnOnceTreeTurnedWrongFalsely : Prop := fnOnceTreeTurnedRow.holds Try.pinned (OpenSpec.ofChange fnOnceTreeTurnedWrong)

/-- 'laws.FnOnceTreeValues': WHATEVER THE INPUT: true; the input reads as it did. -/
def fnOnceTreeValuesSpec : ChangeSpec := { name := "fnOnceTreeValues", fn := fun _ => fun
  | [d1, d2, d3] => { results := [.lit (.bool true)], args := [d1, d2, d3] }
  | _ => none }
def fnOnceTreeValuesRow : OpenClaim := { program := "ytjjmjjbeecmmlad", sum := "fdf04112cb639bf982af17d136ca45716ec19966c1c6bda5d1ba3f63151f1b82", func := "loop.example/lib-g01437/laws.FnOnceTreeValues", spec := "fnOnceTreeValues", inPlace := ["sync/atomic.AddUint64", "sync/atomic.LoadUint32", "(*internal/sync.Mutex).Lock", "internal/race.Disable", "sync/atomic.CompareAndSwapInt32", "internal/race.Enable", "internal/race.Acquire", "(*internal/sync.Mutex).lockSlow", "internal/sync.runtime_canSpin", "internal/sync.runtime_doSpin", "internal/sync.throw", "internal/sync.runtime_nanotime", "internal/sync.runtime_SemacquireMutex", "sync/atomic.AddInt32", "(*internal/sync.Mutex).Unlock", "internal/race.ReleaseMerge", "(*internal/sync.Mutex).unlockSlow", "internal/sync.fatal", "internal/sync.runtime_Semrelease", "sync/atomic.StoreUint32", "sync/atomic.LoadUint64"], unfollowed := true, recurses := true, apart := false }
def FnOnceTreeValuesSaid : Prop := fnOnceTreeValuesRow.holds Try.pinned (OpenSpec.ofChange fnOnceTreeValuesSpec)

/-- ITS FALSE NEIGHBOUR: 'it returns false'. Refute it at one input. -/
def fnOnceTreeValuesWrong : ChangeSpec := { name := "fnOnceTreeValues", fn := fun _ => fun
  | [d1, d2, d3] => { results := [.lit (.bool false)], args := [d1, d2, d3] }
  | _ => none }
def FnOnceTreeValuesWrongFalsely : Prop := fnOnceTreeValuesRow.holds Try.pinned (OpenSpec.ofChange fnOnceTreeValuesWrong)

/-- 'laws.FnOnceTreeAgain': WHATEVER THE INPUT: true; the input reads as it did. -/
def fnOnceTreeAgainSpec : ChangeSpec := { name := "fnOnceTreeAgain", fn := fun _ => fun
  | [d1, d2, d3] => { results := [.lit (.bool true)], args := [d1, d2, d3] }
  | _ => none }
def fnOnceTreeAgainRow : OpenClaim := { program := "ytjjmjjbeecmmlad", sum := "fdf04112cb639bf982af17d136ca45716ec19966c1c6bda5d1ba3f63151f1b82", func := "loop.example/lib-g01437/laws.FnOnceTreeAgain", spec := "fnOnceTreeAgain", inPlace := ["sync/atomic.AddUint64", "sync/atomic.LoadUint32", "(*internal/sync.Mutex).Lock", "internal/race.Disable", "sync/atomic.CompareAndSwapInt32", "internal/race.Enable", "internal/race.Acquire", "(*internal/sync.Mutex).lockSlow", "internal/sync.runtime_canSpin", "internal/sync.runtime_doSpin", "internal/sync.throw", "internal/sync.runtime_nanotime", "internal/sync.runtime_SemacquireMutex", "sync/atomic.AddInt32", "(*internal/sync.Mutex).Unlock", "internal/race.ReleaseMerge", "(*internal/sync.Mutex).unlockSlow", "internal/sync.fatal", "internal/sync.runtime_Semrelease", "sync/atomic.StoreUint32", "sync/atomic.LoadUint64"], unfollowed := true, recurses := true, apart := false }
def FnOnceTreeAgainSaid : Prop := fnOnceTreeAgainRow.holds Try.pinned (OpenSpec.ofChange fnOnceTreeAgainSpec)

/-- ITS FALSE NEIGHBOUR: 'it returns false'. Refute it at one input. -/
def fnOnceTreeAgainWrong : ChangeSpec := { name := "fnOnceTreeAgain", fn := fun _ => fun
  | [d1, d2, d3] => { results := [.lit (.bool false)], args := [d1, d2, d3] }
  | _ => none }
def FnOnceTreeAgainWrongFalsely : Prop := fnOnceTreeAgainRow.holds Try.pinned (OpenSpec.ofChange fnOnceTreeAgainWrong)

/-- 'laws.FnOnceTreeCut': WHATEVER THE INPUT: true; the input reads as it did. -/
def fnOnceTreeCutSpec : ChangeSpec := { name := "fnOnceTreeCut", fn := fun _ => fun
  | [d1, d2, d3, d4] => { results := [.lit (.bool true)], args := [d1, d2, d3, d4] }
  | _ => none }
def fnOnceTreeCutRow : OpenClaim := { program := "ytjjmjjbeecmmlad", sum := "fdf04112cb639bf982af17d136ca45716ec19966c1c6bda5d1ba3f63151f1b82", func := "loop.example/lib-g01437/laws.FnOnceTreeCut", spec := "fnOnceTreeCut", inPlace := ["sync/atomic.AddUint64", "sync/atomic.LoadUint32", "(*internal/sync.Mutex).Lock", "internal/race.Disable", "sync/atomic.CompareAndSwapInt32", "internal/race.Enable", "internal/race.Acquire", "(*internal/sync.Mutex).lockSlow", "internal/sync.runtime_canSpin", "internal/sync.runtime_doSpin", "internal/sync.throw", "internal/sync.runtime_nanotime", "internal/sync.runtime_SemacquireMutex", "sync/atomic.AddInt32", "(*internal/sync.Mutex).Unlock", "internal/race.ReleaseMerge", "(*internal/sync.Mutex).unlockSlow", "internal/sync.fatal", "internal/sync.runtime_Semrelease", "sync/atomic.StoreUint32", "sync/atomic.LoadUint64"], unfollowed := true, recurses := true, apart := false }
def FnOnceTreeCutSaid : Prop := fnOnceTreeCutRow.holds Try.pinned (OpenSpec.ofChange fnOnceTreeCutSpec)

/-- ITS FALSE NEIGHBOUR: 'it returns false'. Refute it at one input. -/
def fnOnceTreeCutWrong : ChangeSpec := { name := "fnOnceTreeCut", fn := fun _ => fun
  | [d1, d2, d3, d4] => { results := [.lit (.bool false)], args := [d1, d2, d3, d4] }
  | _ => none }
def FnOnceTreeCutWrongFalsely : Prop := fnOnceTreeCutRow.holds Try.pinned (OpenSpec.ofChange fnOnceTreeCutWrong)

/-- 'laws.FnOnceTreeOrder': WHATEVER THE INPUT: true; the input reads as it did. -/
def fnOnceTreeOrderSpec : ChangeSpec := { name := "fnOnceTreeOrder", fn := fun _ => fun
  | [d1, d2, d3] => { results := [.lit (.bool true)], args := [d1, d2, d3] }
  | _ => none }
def fnOnceTreeOrderRow : OpenClaim := { program := "ytjjmjjbeecmmlad", sum := "fdf04112cb639bf982af17d136ca45716ec19966c1c6bda5d1ba3f63151f1b82", func := "loop.example/lib-g01437/laws.FnOnceTreeOrder", spec := "fnOnceTreeOrder", inPlace := ["sync/atomic.AddUint64", "sync/atomic.LoadUint32", "(*internal/sync.Mutex).Lock", "internal/race.Disable", "sync/atomic.CompareAndSwapInt32", "internal/race.Enable", "internal/race.Acquire", "(*internal/sync.Mutex).lockSlow", "internal/sync.runtime_canSpin", "internal/sync.runtime_doSpin", "internal/sync.throw", "internal/sync.runtime_nanotime", "internal/sync.runtime_SemacquireMutex", "sync/atomic.AddInt32", "(*internal/sync.Mutex).Unlock", "internal/race.ReleaseMerge", "(*internal/sync.Mutex).unlockSlow", "internal/sync.fatal", "internal/sync.runtime_Semrelease", "sync/atomic.StoreUint32", "sync/atomic.LoadUint64"], unfollowed := true, recurses := true, apart := false }
def FnOnceTreeOrderSaid : Prop := fnOnceTreeOrderRow.holds Try.pinned (OpenSpec.ofChange fnOnceTreeOrderSpec)

/-- ITS FALSE NEIGHBOUR: 'it returns false'. Refute it at one input. -/
def fnOnceTreeOrderWrong : ChangeSpec := { name := "fnOnceTreeOrder", fn := fun _ => fun
  | [d1, d2, d3] => { results := [.lit (.bool false)], args := [d1, d2, d3] }
  | _ => none }
def FnOnceTreeOrderWrongFalsely : Prop := fnOnceTreeOrderRow.holds Try.pinned (OpenSpec.ofChange fnOnceTreeOrderWrong)

/- THE SECOND FORM. 'bulk': how many values and letters a reading holds, each counted each time it is reached (what is shared counts as often as it is met; a slice's spare places count too). A statement '..UptoSaid' is the law's where the arguments, and the package variables that the reading takes, are together of bulk at most 1048576: NARROWER than '..Said'. Prove '..Said' where nothing that the law and all that it calls make is longer than what came in: it says more and counts as full. Else prove '..UptoSaid'. A law counts once. -/
mutual
def uptoBulk {H : Type} : DataW H → Nat
  | .lit (.string bytes) => bytes.length + 1
  | .lit _ => 1
  | .nil => 1
  | .ptr d => uptoBulk d + 1
  | .slice elems spare => uptoBulkAll elems + uptoBulkAll spare + 1
  | .agg parts => uptoBulkAll parts + 1
  | .iface _ d => uptoBulk d + 1
  | .map entries => uptoBulkEntries entries + 1
  | .held _ => 1
def uptoBulkAll {H : Type} : List (DataW H) → Nat
  | [] => 0
  | d :: r => uptoBulk d + uptoBulkAll r
def uptoBulkEntries {H : Type} : List (Lit × DataW H) → Nat
  | [] => 0
  | x :: r => uptoBulkEntry x + uptoBulkEntries r
def uptoBulkEntry {H : Type} : Lit × DataW H → Nat
  | (.string bytes, d) => bytes.length + uptoBulk d + 1
  | (_, d) => uptoBulk d + 1
 end
def uptoSmall : (H : Type) → List (DataW H) → Bool := fun _ ds => decide (uptoBulkAll ds ≤ 1048576)
def OpenSpec.upto (s : _root_.Go.ChangeSpec) : _root_.Go.OpenSpec := { _root_.Go.OpenSpec.ofChange s with cond := some uptoSmall }

/-- 'laws.FnOnceTreeSums', WHERE WHAT IT READS IS OF BULK AT MOST 1048576: true; the input reads as it did. -/
def fnOnceTreeSumsUptoRow : OpenClaim := { program := "ytjjmjjbeecmmlad", sum := "fdf04112cb639bf982af17d136ca45716ec19966c1c6bda5d1ba3f63151f1b82", func := "loop.example/lib-g01437/laws.FnOnceTreeSums", spec := "fnOnceTreeSums", inPlace := ["sync/atomic.AddUint64", "sync/atomic.LoadUint32", "(*internal/sync.Mutex).Lock", "internal/race.Disable", "sync/atomic.CompareAndSwapInt32", "internal/race.Enable", "internal/race.Acquire", "(*internal/sync.Mutex).lockSlow", "internal/sync.runtime_canSpin", "internal/sync.runtime_doSpin", "internal/sync.throw", "internal/sync.runtime_nanotime", "internal/sync.runtime_SemacquireMutex", "sync/atomic.AddInt32", "(*internal/sync.Mutex).Unlock", "internal/race.ReleaseMerge", "(*internal/sync.Mutex).unlockSlow", "internal/sync.fatal", "internal/sync.runtime_Semrelease", "sync/atomic.StoreUint32", "sync/atomic.LoadUint64"], unfollowed := true, recurses := true, apart := false, narrowed := true }
def FnOnceTreeSumsUptoSaid : Prop := fnOnceTreeSumsUptoRow.holds Try.pinned (OpenSpec.upto fnOnceTreeSumsSpec)

/-- 'laws.FnOnceTreeTurned', WHERE WHAT IT READS IS OF BULK AT MOST 1048576: true; the input reads as it did. -/
def fnOnceTreeTurnedUptoRow : OpenClaim := { program := "ytjjmjjbeecmmlad", sum := "fdf04112cb639bf982af17d136ca45716ec19966c1c6bda5d1ba3f63151f1b82", func := "loop.example/lib-g01437/laws.FnOnceTreeTurned", spec := "fnOnceTreeTurned", inPlace := ["sync/atomic.AddUint64", "sync/atomic.LoadUint32", "(*internal/sync.Mutex).Lock", "internal/race.Disable", "sync/atomic.CompareAndSwapInt32", "internal/race.Enable", "internal/race.Acquire", "(*internal/sync.Mutex).lockSlow", "internal/sync.runtime_canSpin", "internal/sync.runtime_doSpin", "internal/sync.throw", "internal/sync.runtime_nanotime", "internal/sync.runtime_SemacquireMutex", "sync/atomic.AddInt32", "(*internal/sync.Mutex).Unlock", "internal/race.ReleaseMerge", "(*internal/sync.Mutex).unlockSlow", "internal/sync.fatal", "internal/sync.runtime_Semrelease", "sync/atomic.StoreUint32", "sync/atomic.LoadUint64"], unfollowed := true, recurses := true, apart := false, narrowed := true }
def FnOnceTreeTurnedUptoSaid : Prop := fnOnceTreeTurnedUptoRow.holds Try.pinned (OpenSpec.upto fnOnceTreeTurnedSpec)

/-- 'laws.FnOnceTreeValues', WHERE WHAT IT READS IS OF BULK AT MOST 1048576: true; the input reads as it did. -/
def fnOnceTreeValuesUptoRow : OpenClaim := { program := "ytjjmjjbeecmmlad", sum := "fdf04112cb639bf982af17d136ca45716ec19966c1c6bda5d1ba3f63151f1b82", func := "loop.example/lib-g01437/laws.FnOnceTreeValues", spec := "fnOnceTreeValues", inPlace := ["sync/atomic.AddUint64", "sync/atomic.LoadUint32", "(*internal/sync.Mutex).Lock", "internal/race.Disable", "sync/atomic.CompareAndSwapInt32", "internal/race.Enable", "internal/race.Acquire", "(*internal/sync.Mutex).lockSlow", "internal/sync.runtime_canSpin", "internal/sync.runtime_doSpin", "internal/sync.throw", "internal/sync.runtime_nanotime", "internal/sync.runtime_SemacquireMutex", "sync/atomic.AddInt32", "(*internal/sync.Mutex).Unlock", "internal/race.ReleaseMerge", "(*internal/sync.Mutex).unlockSlow", "internal/sync.fatal", "internal/sync.runtime_Semrelease", "sync/atomic.StoreUint32", "sync/atomic.LoadUint64"], unfollowed := true, recurses := true, apart := false, narrowed := true }
def FnOnceTreeValuesUptoSaid : Prop := fnOnceTreeValuesUptoRow.holds Try.pinned (OpenSpec.upto fnOnceTreeValuesSpec)

/-- 'laws.FnOnceTreeAgain', WHERE WHAT IT READS IS OF BULK AT MOST 1048576: true; the input reads as it did. -/
def fnOnceTreeAgainUptoRow : OpenClaim := { program := "ytjjmjjbeecmmlad", sum := "fdf04112cb639bf982af17d136ca45716ec19966c1c6bda5d1ba3f63151f1b82", func := "loop.example/lib-g01437/laws.FnOnceTreeAgain", spec := "fnOnceTreeAgain", inPlace := ["sync/atomic.AddUint64", "sync/atomic.LoadUint32", "(*internal/sync.Mutex).Lock", "internal/race.Disable", "sync/atomic.CompareAndSwapInt32", "internal/race.Enable", "internal/race.Acquire", "(*internal/sync.Mutex).lockSlow", "internal/sync.runtime_canSpin", "internal/sync.runtime_doSpin", "internal/sync.throw", "internal/sync.runtime_nanotime", "internal/sync.runtime_SemacquireMutex", "sync/atomic.AddInt32", "(*internal/sync.Mutex).Unlock", "internal/race.ReleaseMerge", "(*internal/sync.Mutex).unlockSlow", "internal/sync.fatal", "internal/sync.runtime_Semrelease", "sync/atomic.StoreUint32", "sync/atomic.LoadUint64"], unfollowed := true, recurses := true, apart := false, narrowed := true }
def FnOnceTreeAgainUptoSaid : Prop := fnOnceTreeAgainUptoRow.holds Try.pinned (OpenSpec.upto fnOnceTreeAgainSpec)

/-- 'laws.FnOnceTreeCut', WHERE WHAT IT READS IS OF BULK AT MOST 1048576: true; the input reads as it did. -/
def fnOnceTreeCutUptoRow : OpenClaim := { program := "ytjjmjjbeecmmlad", sum := "fdf04112cb639bf982af17d136ca45716ec19966c1c6bda5d1ba3f63151f1b82", func := "loop.example/lib-g01437/laws.FnOnceTreeCut", spec := "fnOnceTreeCut", inPlace := ["sync/atomic.AddUint64", "sync/atomic.LoadUint32", "(*internal/sync.Mutex).Lock", "internal/race.Disable", "sync/atomic.CompareAndSwapInt32", "internal/race.Enable", "internal/race.Acquire", "(*internal/sync.Mutex).lockSlow", "internal/sync.runtime_canSpin", "internal/sync.runtime_doSpin", "internal/sync.throw", "internal/sync.runtime_nanotime", "internal/sync.runtime_SemacquireMutex", "sync/atomic.AddInt32", "(*internal/sync.Mutex).Unlock", "internal/race.ReleaseMerge", "(*internal/sync.Mutex).unlockSlow", "internal/sync.fatal", "internal/sync.runtime_Semrelease", "sync/atomic.StoreUint32", "sync/atomic.LoadUint64"], unfollowed := true, recurses := true, apart := false, narrowed := true }
def FnOnceTreeCutUptoSaid : Prop := fnOnceTreeCutUptoRow.holds Try.pinned (OpenSpec.upto fnOnceTreeCutSpec)

/-- 'laws.FnOnceTreeOrder', WHERE WHAT IT READS IS OF BULK AT MOST 1048576: true; the input reads as it did. -/
def fnOnceTreeOrderUptoRow : OpenClaim := { program := "ytjjmjjbeecmmlad", sum := "fdf04112cb639bf982af17d136ca45716ec19966c1c6bda5d1ba3f63151f1b82", func := "loop.example/lib-g01437/laws.FnOnceTreeOrder", spec := "fnOnceTreeOrder", inPlace := ["sync/atomic.AddUint64", "sync/atomic.LoadUint32", "(*internal/sync.Mutex).Lock", "internal/race.Disable", "sync/atomic.CompareAndSwapInt32", "internal/race.Enable", "internal/race.Acquire", "(*internal/sync.Mutex).lockSlow", "internal/sync.runtime_canSpin", "internal/sync.runtime_doSpin", "internal/sync.throw", "internal/sync.runtime_nanotime", "internal/sync.runtime_SemacquireMutex", "sync/atomic.AddInt32", "(*internal/sync.Mutex).Unlock", "internal/race.ReleaseMerge", "(*internal/sync.Mutex).unlockSlow", "internal/sync.fatal", "internal/sync.runtime_Semrelease", "sync/atomic.StoreUint32", "sync/atomic.LoadUint64"], unfollowed := true, recurses := true, apart := false, narrowed := true }
def FnOnceTreeOrderUptoSaid : Prop := fnOnceTreeOrderUptoRow.holds Try.pinned (OpenSpec.upto fnOnceTreeOrderSpec)

end Rows
end Go.Proofs.Ytjjmjjbeecmmlad
