/-
  No cell of these rows narrows 'for every input' (looked for: loops, veiled, ifaces, maps, wideKeys, modest, calm, conditions, laid).
  DERIVED. THE GIVEN ROWS OF THIS SEAT. 6 by the template 'for every input the law returns true; each argument reads behind the call as it read before'; 0 by the template 'total and deterministic' (their statements: YtjjmjjbeecmmlaeTotals.lean).
  GIVEN WITH THE SEED: the statements are not yours to turn. If you find one false, say at which input.
  Laid BY PROGRAM, IN A SANDBOX (cutbox-rows.mjs): the forced cells as the released guide's own fill.sh prints them over the translation 366ef0ea730a385b… (all of the seat's roots in one cut). By AI agents, Wed Nov 11 2026. No macro, syntax, notation, axiom, sorry.
-/
import Derived.Test.YtjjmjjbeecmmlaeChecked
import GoSem.Claim
import GoSem.ClaimJoined
import GoSem.ClaimMapViews
import Derived.JoinedTies
import Derived.KernelRfl
namespace Go.Proofs.Ytjjmjjbeecmmlae
/- THE CELL 'sum', in the pinned program and in every row, IS THE sha256 OF THE DUMP (.gsa) THAT YtjjmjjbeecmmlaeProg.lean LOADS. Nothing in Lean hashes anything: it is a label: what it is worth is what the hold of that sum in a sandbox is worth. -/
noncomputable def Try.pinned : Pinned := { name := "ytjjmjjbeecmmlae", sum := "366ef0ea730a385b5308788665e60cb6a023cca4e40bba5a1688d3bdb0ef52a9", checked := Try.checked }
namespace Rows
def none {H : Type} : Left H := { results := [], args := [] }

/-- 'laws.FnOnceFlagsTell': WHATEVER THE INPUT: true; the input reads as it did. -/
def fnOnceFlagsTellSpec : ChangeSpec := { name := "fnOnceFlagsTell", fn := fun _ => fun
  | [d1, d2] => { results := [.lit (.bool true)], args := [d1, d2] }
  | _ => none }
def fnOnceFlagsTellRow : OpenClaim := { program := "ytjjmjjbeecmmlae", sum := "366ef0ea730a385b5308788665e60cb6a023cca4e40bba5a1688d3bdb0ef52a9", func := "loop.example/lib-g01437/laws.FnOnceFlagsTell", spec := "fnOnceFlagsTell", inPlace := ["sync/atomic.OrUint64", "sync/atomic.LoadUint32", "(*internal/sync.Mutex).Lock", "internal/race.Disable", "sync/atomic.CompareAndSwapInt32", "internal/race.Enable", "internal/race.Acquire", "(*internal/sync.Mutex).lockSlow", "internal/sync.runtime_canSpin", "internal/sync.runtime_doSpin", "internal/sync.throw", "internal/sync.runtime_nanotime", "internal/sync.runtime_SemacquireMutex", "sync/atomic.AddInt32", "(*internal/sync.Mutex).Unlock", "internal/race.ReleaseMerge", "(*internal/sync.Mutex).unlockSlow", "internal/sync.fatal", "internal/sync.runtime_Semrelease", "sync/atomic.StoreUint32", "sync/atomic.LoadUint64"], unfollowed := true, recurses := true, apart := false }
def FnOnceFlagsTellSaid : Prop := fnOnceFlagsTellRow.holds Try.pinned (OpenSpec.ofChange fnOnceFlagsTellSpec)

/-- ITS FALSE NEIGHBOUR: 'it returns false'. Refute it at one input. -/
def fnOnceFlagsTellWrong : ChangeSpec := { name := "fnOnceFlagsTell", fn := fun _ => fun
  | [d1, d2] => { results := [.lit (.bool false)], args := [d1, d2] }
  | _ => none }
def FnOnceFlagsTellWrongFalsely : Prop := fnOnceFlagsTellRow.holds Try.pinned (OpenSpec.ofChange fnOnceFlagsTellWrong)

/-- 'laws.FnOnceFlagsWord': WHATEVER THE INPUT: true; the input reads as it did. -/
def fnOnceFlagsWordSpec : ChangeSpec := { name := "fnOnceFlagsWord", fn := fun _ => fun
  | [d1, d2] => { results := [.lit (.bool true)], args := [d1, d2] }
  | _ => none }
def fnOnceFlagsWordRow : OpenClaim := { program := "ytjjmjjbeecmmlae", sum := "366ef0ea730a385b5308788665e60cb6a023cca4e40bba5a1688d3bdb0ef52a9", func := "loop.example/lib-g01437/laws.FnOnceFlagsWord", spec := "fnOnceFlagsWord", inPlace := ["sync/atomic.OrUint64", "sync/atomic.LoadUint32", "(*internal/sync.Mutex).Lock", "internal/race.Disable", "sync/atomic.CompareAndSwapInt32", "internal/race.Enable", "internal/race.Acquire", "(*internal/sync.Mutex).lockSlow", "internal/sync.runtime_canSpin", "internal/sync.runtime_doSpin", "internal/sync.throw", "internal/sync.runtime_nanotime", "internal/sync.runtime_SemacquireMutex", "sync/atomic.AddInt32", "(*internal/sync.Mutex).Unlock", "internal/race.ReleaseMerge", "(*internal/sync.Mutex).unlockSlow", "internal/sync.fatal", "internal/sync.runtime_Semrelease", "sync/atomic.StoreUint32", "sync/atomic.LoadUint64"], unfollowed := true, recurses := true, apart := false }
def FnOnceFlagsWordSaid : Prop := fnOnceFlagsWordRow.holds Try.pinned (OpenSpec.ofChange fnOnceFlagsWordSpec)

/-- ITS FALSE NEIGHBOUR: 'it returns false'. Refute it at one input. -/
def fnOnceFlagsWordWrong : ChangeSpec := { name := "fnOnceFlagsWord", fn := fun _ => fun
  | [d1, d2] => { results := [.lit (.bool false)], args := [d1, d2] }
  | _ => none }
def FnOnceFlagsWordWrongFalsely : Prop := fnOnceFlagsWordRow.holds Try.pinned (OpenSpec.ofChange fnOnceFlagsWordWrong)

/-- 'laws.FnOnceChangesChain': WHATEVER THE INPUT: true; the input reads as it did. -/
def fnOnceChangesChainSpec : ChangeSpec := { name := "fnOnceChangesChain", fn := fun _ => fun
  | [d1, d2, d3] => { results := [.lit (.bool true)], args := [d1, d2, d3] }
  | _ => none }
def fnOnceChangesChainRow : OpenClaim := { program := "ytjjmjjbeecmmlae", sum := "366ef0ea730a385b5308788665e60cb6a023cca4e40bba5a1688d3bdb0ef52a9", func := "loop.example/lib-g01437/laws.FnOnceChangesChain", spec := "fnOnceChangesChain", inPlace := ["sync/atomic.StoreUint64", "sync/atomic.CompareAndSwapUint64", "sync/atomic.LoadUint32", "(*internal/sync.Mutex).Lock", "internal/race.Disable", "sync/atomic.CompareAndSwapInt32", "internal/race.Enable", "internal/race.Acquire", "(*internal/sync.Mutex).lockSlow", "internal/sync.runtime_canSpin", "internal/sync.runtime_doSpin", "internal/sync.throw", "internal/sync.runtime_nanotime", "internal/sync.runtime_SemacquireMutex", "sync/atomic.AddInt32", "(*internal/sync.Mutex).Unlock", "internal/race.ReleaseMerge", "(*internal/sync.Mutex).unlockSlow", "internal/sync.fatal", "internal/sync.runtime_Semrelease", "sync/atomic.StoreUint32", "sync/atomic.LoadUint64"], unfollowed := true, recurses := true, apart := false }
def FnOnceChangesChainSaid : Prop := fnOnceChangesChainRow.holds Try.pinned (OpenSpec.ofChange fnOnceChangesChainSpec)

/-- ITS FALSE NEIGHBOUR: 'it returns false'. Refute it at one input. -/
def fnOnceChangesChainWrong : ChangeSpec := { name := "fnOnceChangesChain", fn := fun _ => fun
  | [d1, d2, d3] => { results := [.lit (.bool false)], args := [d1, d2, d3] }
  | _ => none }
def FnOnceChangesChainWrongFalsely : Prop := fnOnceChangesChainRow.holds Try.pinned (OpenSpec.ofChange fnOnceChangesChainWrong)

/-- 'laws.FnOnceChangesFirst': WHATEVER THE INPUT: true; the input reads as it did. -/
def fnOnceChangesFirstSpec : ChangeSpec := { name := "fnOnceChangesFirst", fn := fun _ => fun
  | [d1, d2, d3] => { results := [.lit (.bool true)], args := [d1, d2, d3] }
  | _ => none }
def fnOnceChangesFirstRow : OpenClaim := { program := "ytjjmjjbeecmmlae", sum := "366ef0ea730a385b5308788665e60cb6a023cca4e40bba5a1688d3bdb0ef52a9", func := "loop.example/lib-g01437/laws.FnOnceChangesFirst", spec := "fnOnceChangesFirst", inPlace := ["sync/atomic.StoreUint64", "sync/atomic.CompareAndSwapUint64", "sync/atomic.LoadUint32", "(*internal/sync.Mutex).Lock", "internal/race.Disable", "sync/atomic.CompareAndSwapInt32", "internal/race.Enable", "internal/race.Acquire", "(*internal/sync.Mutex).lockSlow", "internal/sync.runtime_canSpin", "internal/sync.runtime_doSpin", "internal/sync.throw", "internal/sync.runtime_nanotime", "internal/sync.runtime_SemacquireMutex", "sync/atomic.AddInt32", "(*internal/sync.Mutex).Unlock", "internal/race.ReleaseMerge", "(*internal/sync.Mutex).unlockSlow", "internal/sync.fatal", "internal/sync.runtime_Semrelease", "sync/atomic.StoreUint32", "sync/atomic.LoadUint64"], unfollowed := true, recurses := true, apart := false }
def FnOnceChangesFirstSaid : Prop := fnOnceChangesFirstRow.holds Try.pinned (OpenSpec.ofChange fnOnceChangesFirstSpec)

/-- ITS FALSE NEIGHBOUR: 'it returns false'. Refute it at one input. -/
def fnOnceChangesFirstWrong : ChangeSpec := { name := "fnOnceChangesFirst", fn := fun _ => fun
  | [d1, d2, d3] => { results := [.lit (.bool false)], args := [d1, d2, d3] }
  | _ => none }
def FnOnceChangesFirstWrongFalsely : Prop := fnOnceChangesFirstRow.holds Try.pinned (OpenSpec.ofChange fnOnceChangesFirstWrong)

/-- 'laws.FnOnceAddsAnyOrder': WHATEVER THE INPUT: true; the input reads as it did. -/
def fnOnceAddsAnyOrderSpec : ChangeSpec := { name := "fnOnceAddsAnyOrder", fn := fun _ => fun
  | [d1, d2, d3] => { results := [.lit (.bool true)], args := [d1, d2, d3] }
  | _ => none }
def fnOnceAddsAnyOrderRow : OpenClaim := { program := "ytjjmjjbeecmmlae", sum := "366ef0ea730a385b5308788665e60cb6a023cca4e40bba5a1688d3bdb0ef52a9", func := "loop.example/lib-g01437/laws.FnOnceAddsAnyOrder", spec := "fnOnceAddsAnyOrder", inPlace := ["sync/atomic.StoreUint64", "sync/atomic.AddUint64", "sync/atomic.LoadUint32", "(*internal/sync.Mutex).Lock", "internal/race.Disable", "sync/atomic.CompareAndSwapInt32", "internal/race.Enable", "internal/race.Acquire", "(*internal/sync.Mutex).lockSlow", "internal/sync.runtime_canSpin", "internal/sync.runtime_doSpin", "internal/sync.throw", "internal/sync.runtime_nanotime", "internal/sync.runtime_SemacquireMutex", "sync/atomic.AddInt32", "(*internal/sync.Mutex).Unlock", "internal/race.ReleaseMerge", "(*internal/sync.Mutex).unlockSlow", "internal/sync.fatal", "internal/sync.runtime_Semrelease", "sync/atomic.StoreUint32", "sync/atomic.LoadUint64"], unfollowed := true, recurses := true, apart := false }
def FnOnceAddsAnyOrderSaid : Prop := fnOnceAddsAnyOrderRow.holds Try.pinned (OpenSpec.ofChange fnOnceAddsAnyOrderSpec)

/-- ITS FALSE NEIGHBOUR: 'it returns false'. Refute it at one input. -/
def fnOnceAddsAnyOrderWrong : ChangeSpec := { name := "fnOnceAddsAnyOrder", fn := fun _ => fun
  | [d1, d2, d3] => { results := [.lit (.bool false)], args := [d1, d2, d3] }
  | _ => none }
def FnOnceAddsAnyOrderWrongFalsely : Prop := fnOnceAddsAnyOrderRow.holds Try.pinned (OpenSpec.ofChange fnOnceAddsAnyOrderWrong)

/-- 'laws.FnOnceAddsSums': WHATEVER THE INPUT: true; the input reads as it did. -/
def fnOnceAddsSumsSpec : ChangeSpec := { name := "fnOnceAddsSums", fn := fun _ => fun
  | [d1, d2, d3, d4] => { results := [.lit (.bool true)], args := [d1, d2, d3, d4] }
  | _ => none }
def fnOnceAddsSumsRow : OpenClaim := { program := "ytjjmjjbeecmmlae", sum := "366ef0ea730a385b5308788665e60cb6a023cca4e40bba5a1688d3bdb0ef52a9", func := "loop.example/lib-g01437/laws.FnOnceAddsSums", spec := "fnOnceAddsSums", inPlace := ["sync/atomic.StoreUint64", "sync/atomic.AddUint64", "sync/atomic.LoadUint32", "(*internal/sync.Mutex).Lock", "internal/race.Disable", "sync/atomic.CompareAndSwapInt32", "internal/race.Enable", "internal/race.Acquire", "(*internal/sync.Mutex).lockSlow", "internal/sync.runtime_canSpin", "internal/sync.runtime_doSpin", "internal/sync.throw", "internal/sync.runtime_nanotime", "internal/sync.runtime_SemacquireMutex", "sync/atomic.AddInt32", "(*internal/sync.Mutex).Unlock", "internal/race.ReleaseMerge", "(*internal/sync.Mutex).unlockSlow", "internal/sync.fatal", "internal/sync.runtime_Semrelease", "sync/atomic.StoreUint32", "sync/atomic.LoadUint64"], unfollowed := true, recurses := true, apart := false }
def FnOnceAddsSumsSaid : Prop := fnOnceAddsSumsRow.holds Try.pinned (OpenSpec.ofChange fnOnceAddsSumsSpec)

/-- ITS FALSE NEIGHBOUR: 'it returns false'. Refute it at one input. -/
def fnOnceAddsSumsWrong : ChangeSpec := { name := "fnOnceAddsSums", fn := fun _ => fun
  | [d1, d2, d3, d4] => { results := [.lit (.bool false)], args := [d1, d2, d3, d4] }
  | _ => none }
def FnOnceAddsSumsWrongFalsely : Prop := fnOnceAddsSumsRow.holds Try.pinned (OpenSpec.ofChange fnOnceAddsSumsWrong)

/- THE SECOND FORM. 'bulk': how many values and letters a reading holds, each counted each time it is reached (what is shared counts as often as it is met; a slice's spare places count too). A statement '..UptoSaid' is the law's where the arguments, and the package variables that the reading takes, are together of bulk at most 1048576: NARROWER than '..Said'. Prove '..Said' where nothing that the law and all that it calls make is longer than what came in: it says more and counts as full. Else prove '..UptoSaid'. A law counts once. -/
mutual
def uptoBulk {H : Type} : DataW H → Nat
  | .lit (.string bytes) => bytes.length + 1
  | .lit _ => 1
  | .nil => 1
  | .ptr d => uptoBulk d + 1
  | .slice elems spare => uptoBulkAll elems + uptoBulkAll spare + 1
  | .agg parts => uptoBulkAll parts + 1
  | .iface _ d => uptoBulk d + 1
  | .map entries => uptoBulkEntries entries + 1
  | .held _ => 1
def uptoBulkAll {H : Type} : List (DataW H) → Nat
  | [] => 0
  | d :: r => uptoBulk d + uptoBulkAll r
def uptoBulkEntries {H : Type} : List (Lit × DataW H) → Nat
  | [] => 0
  | x :: r => uptoBulkEntry x + uptoBulkEntries r
def uptoBulkEntry {H : Type} : Lit × DataW H → Nat
  | (.string bytes, d) => bytes.length + uptoBulk d + 1
  | (_, d) => uptoBulk d + 1
 end
def uptoSmall : (H : Type) → List (DataW H) → Bool := fun _ ds => decide (uptoBulkAll ds ≤ 1048576)
def OpenSpec.upto (s : _root_.Go.ChangeSpec) : _root_.Go.OpenSpec := { _root_.Go.OpenSpec.ofChange s with cond := some uptoSmall }

/-- 'laws.FnOnceFlagsTell', WHERE WHAT IT READS IS OF BULK AT MOST 1048576: true; the input reads as it did. -/
def fnOnceFlagsTellUptoRow : OpenClaim := { program := "ytjjmjjbeecmmlae", sum := "366ef0ea730a385b5308788665e60cb6a023cca4e40bba5a1688d3bdb0ef52a9", func := "loop.example/lib-g01437/laws.FnOnceFlagsTell", spec := "fnOnceFlagsTell", inPlace := ["sync/atomic.OrUint64", "sync/atomic.LoadUint32", "(*internal/sync.Mutex).Lock", "internal/race.Disable", "sync/atomic.CompareAndSwapInt32", "internal/race.Enable", "internal/race.Acquire", "(*internal/sync.Mutex).lockSlow", "internal/sync.runtime_canSpin", "internal/sync.runtime_doSpin", "internal/sync.throw", "internal/sync.runtime_nanotime", "internal/sync.runtime_SemacquireMutex", "sync/atomic.AddInt32", "(*internal/sync.Mutex).Unlock", "internal/race.ReleaseMerge", "(*internal/sync.Mutex).unlockSlow", "internal/sync.fatal", "internal/sync.runtime_Semrelease", "sync/atomic.StoreUint32", "sync/atomic.LoadUint64"], unfollowed := true, recurses := true, apart := false, narrowed := true }
def FnOnceFlagsTellUptoSaid : Prop := fnOnceFlagsTellUptoRow.holds Try.pinned (OpenSpec.upto fnOnceFlagsTellSpec)

/-- 'laws.FnOnceFlagsWord', WHERE WHAT IT READS IS OF BULK AT MOST 1048576: true; the input reads as it did. -/
def fnOnceFlagsWordUptoRow : OpenClaim := { program := "ytjjmjjbeecmmlae", sum := "366ef0ea730a385b5308788665e60cb6a023cca4e40bba5a1688d3bdb0ef52a9", func := "loop.example/lib-g01437/laws.FnOnceFlagsWord", spec := "fnOnceFlagsWord", inPlace := ["sync/atomic.OrUint64", "sync/atomic.LoadUint32", "(*internal/sync.Mutex).Lock", "internal/race.Disable", "sync/atomic.CompareAndSwapInt32", "internal/race.Enable", "internal/race.Acquire", "(*internal/sync.Mutex).lockSlow", "internal/sync.runtime_canSpin", "internal/sync.runtime_doSpin", "internal/sync.throw", "internal/sync.runtime_nanotime", "internal/sync.runtime_SemacquireMutex", "sync/atomic.AddInt32", "(*internal/sync.Mutex).Unlock", "internal/race.ReleaseMerge", "(*internal/sync.Mutex).unlockSlow", "internal/sync.fatal", "internal/sync.runtime_Semrelease", "sync/atomic.StoreUint32", "sync/atomic.LoadUint64"], unfollowed := true, recurses := true, apart := false, narrowed := true }
def FnOnceFlagsWordUptoSaid : Prop := fnOnceFlagsWordUptoRow.holds Try.pinned (OpenSpec.upto fnOnceFlagsWordSpec)

/-- 'laws.FnOnceChangesChain', WHERE WHAT IT READS IS OF BULK AT MOST 1048576: true; the input reads as it did. -/
def fnOnceChangesChainUptoRow : OpenClaim := { program := "ytjjmjjbeecmmlae", sum := "366ef0ea730a385b5308788665e60cb6a023cca4e40bba5a1688d3bdb0ef52a9", func := "loop.example/lib-g01437/laws.FnOnceChangesChain", spec := "fnOnceChangesChain", inPlace := ["sync/atomic.StoreUint64", "sync/atomic.CompareAndSwapUint64", "sync/atomic.LoadUint32", "(*internal/sync.Mutex).Lock", "internal/race.Disable", "sync/atomic.CompareAndSwapInt32", "internal/race.Enable", "internal/race.Acquire", "(*internal/sync.Mutex).lockSlow", "internal/sync.runtime_canSpin", "internal/sync.runtime_doSpin", "internal/sync.throw", "internal/sync.runtime_nanotime", "internal/sync.runtime_SemacquireMutex", "sync/atomic.AddInt32", "(*internal/sync.Mutex).Unlock", "internal/race.ReleaseMerge", "(*internal/sync.Mutex).unlockSlow", "internal/sync.fatal", "internal/sync.runtime_Semrelease", "sync/atomic.StoreUint32", "sync/atomic.LoadUint64"], unfollowed := true, recurses := true, apart := false, narrowed := true }
def FnOnceChangesChainUptoSaid : Prop := fnOnceChangesChainUptoRow.holds Try.pinned (OpenSpec.upto fnOnceChangesChainSpec)

/-- 'laws.FnOnceChangesFirst', WHERE WHAT IT READS IS OF BULK AT MOST 1048576: true; the input reads as it did. -/
def fnOnceChangesFirstUptoRow : OpenClaim := { program := "ytjjmjjbeecmmlae", sum := "366ef0ea730a385b5308788665e60cb6a023cca4e40bba5a1688d3bdb0ef52a9", func := "loop.example/lib-g01437/laws.FnOnceChangesFirst", spec := "fnOnceChangesFirst", inPlace := ["sync/atomic.StoreUint64", "sync/atomic.CompareAndSwapUint64", "sync/atomic.LoadUint32", "(*internal/sync.Mutex).Lock", "internal/race.Disable", "sync/atomic.CompareAndSwapInt32", "internal/race.Enable", "internal/race.Acquire", "(*internal/sync.Mutex).lockSlow", "internal/sync.runtime_canSpin", "internal/sync.runtime_doSpin", "internal/sync.throw", "internal/sync.runtime_nanotime", "internal/sync.runtime_SemacquireMutex", "sync/atomic.AddInt32", "(*internal/sync.Mutex).Unlock", "internal/race.ReleaseMerge", "(*internal/sync.Mutex).unlockSlow", "internal/sync.fatal", "internal/sync.runtime_Semrelease", "sync/atomic.StoreUint32", "sync/atomic.LoadUint64"], unfollowed := true, recurses := true, apart := false, narrowed := true }
def FnOnceChangesFirstUptoSaid : Prop := fnOnceChangesFirstUptoRow.holds Try.pinned (OpenSpec.upto fnOnceChangesFirstSpec)

/-- 'laws.FnOnceAddsAnyOrder', WHERE WHAT IT READS IS OF BULK AT MOST 1048576: true; the input reads as it did. -/
def fnOnceAddsAnyOrderUptoRow : OpenClaim := { program := "ytjjmjjbeecmmlae", sum := "366ef0ea730a385b5308788665e60cb6a023cca4e40bba5a1688d3bdb0ef52a9", func := "loop.example/lib-g01437/laws.FnOnceAddsAnyOrder", spec := "fnOnceAddsAnyOrder", inPlace := ["sync/atomic.StoreUint64", "sync/atomic.AddUint64", "sync/atomic.LoadUint32", "(*internal/sync.Mutex).Lock", "internal/race.Disable", "sync/atomic.CompareAndSwapInt32", "internal/race.Enable", "internal/race.Acquire", "(*internal/sync.Mutex).lockSlow", "internal/sync.runtime_canSpin", "internal/sync.runtime_doSpin", "internal/sync.throw", "internal/sync.runtime_nanotime", "internal/sync.runtime_SemacquireMutex", "sync/atomic.AddInt32", "(*internal/sync.Mutex).Unlock", "internal/race.ReleaseMerge", "(*internal/sync.Mutex).unlockSlow", "internal/sync.fatal", "internal/sync.runtime_Semrelease", "sync/atomic.StoreUint32", "sync/atomic.LoadUint64"], unfollowed := true, recurses := true, apart := false, narrowed := true }
def FnOnceAddsAnyOrderUptoSaid : Prop := fnOnceAddsAnyOrderUptoRow.holds Try.pinned (OpenSpec.upto fnOnceAddsAnyOrderSpec)

/-- 'laws.FnOnceAddsSums', WHERE WHAT IT READS IS OF BULK AT MOST 1048576: true; the input reads as it did. -/
def fnOnceAddsSumsUptoRow : OpenClaim := { program := "ytjjmjjbeecmmlae", sum := "366ef0ea730a385b5308788665e60cb6a023cca4e40bba5a1688d3bdb0ef52a9", func := "loop.example/lib-g01437/laws.FnOnceAddsSums", spec := "fnOnceAddsSums", inPlace := ["sync/atomic.StoreUint64", "sync/atomic.AddUint64", "sync/atomic.LoadUint32", "(*internal/sync.Mutex).Lock", "internal/race.Disable", "sync/atomic.CompareAndSwapInt32", "internal/race.Enable", "internal/race.Acquire", "(*internal/sync.Mutex).lockSlow", "internal/sync.runtime_canSpin", "internal/sync.runtime_doSpin", "internal/sync.throw", "internal/sync.runtime_nanotime", "internal/sync.runtime_SemacquireMutex", "sync/atomic.AddInt32", "(*internal/sync.Mutex).Unlock", "internal/race.ReleaseMerge", "(*internal/sync.Mutex).unlockSlow", "internal/sync.fatal", "internal/sync.runtime_Semrelease", "sync/atomic.StoreUint32", "sync/atomic.LoadUint64"], unfollowed := true, recurses := true, apart := false, narrowed := true }
def FnOnceAddsSumsUptoSaid : Prop := fnOnceAddsSumsUptoRow.holds Try.pinned (OpenSpec.upto fnOnceAddsSumsSpec)

end Rows
end Go.Proofs.Ytjjmjjbeecmmlae
