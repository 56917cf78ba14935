/-
  No cell of these rows narrows 'for every input' (looked for: loops, veiled, ifaces, maps, wideKeys, modest, calm, conditions, laid).
  DERIVED. THE GIVEN ROWS OF THIS SEAT. 6 by the template 'for every input the law returns true; each argument reads behind the call as it read before'; 0 by the template 'total and deterministic' (their statements: YtjjmjjbeecmmlabTotals.lean).
  GIVEN WITH THE SEED: the statements are not yours to turn. If you find one false, say at which input.
  Laid BY PROGRAM, IN A SANDBOX (cutbox-rows.mjs): the forced cells as the released guide's own fill.sh prints them over the translation 595a1c06dfcc0243… (all of the seat's roots in one cut). By AI agents, Wed Nov 11 2026. No macro, syntax, notation, axiom, sorry.
-/
import Derived.Test.YtjjmjjbeecmmlabChecked
import GoSem.Claim
import GoSem.ClaimJoined
import GoSem.ClaimMapViews
import Derived.JoinedTies
import Derived.KernelRfl
namespace Go.Proofs.Ytjjmjjbeecmmlab
/- THE CELL 'sum', in the pinned program and in every row, IS THE sha256 OF THE DUMP (.gsa) THAT YtjjmjjbeecmmlabProg.lean LOADS. Nothing in Lean hashes anything: it is a label: what it is worth is what the hold of that sum in a sandbox is worth. -/
noncomputable def Try.pinned : Pinned := { name := "ytjjmjjbeecmmlab", sum := "595a1c06dfcc02439bbd3ccc151815a1821616fe755fc57d32c149c32b79c1ba", checked := Try.checked }
namespace Rows
def none {H : Type} : Left H := { results := [], args := [] }

/-- 'laws.FnLastBit': WHATEVER THE INPUT: true; the input reads as it did. -/
def fnLastBitSpec : ChangeSpec := { name := "fnLastBit", fn := fun _ => fun
  | [d1, d2, d3] => { results := [.lit (.bool true)], args := [d1, d2, d3] }
  | _ => none }
def fnLastBitRow : OpenClaim := { program := "ytjjmjjbeecmmlab", sum := "595a1c06dfcc02439bbd3ccc151815a1821616fe755fc57d32c149c32b79c1ba", func := "loop.example/lib-g01437/laws.FnLastBit", spec := "fnLastBit", inPlace := ["sync/atomic.StoreUint64", "sync/atomic.LoadUint64", "sync/atomic.AddUint64", "sync/atomic.SwapUint64", "sync/atomic.CompareAndSwapUint64", "sync/atomic.AndUint64", "sync/atomic.OrUint64"], apart := false }
def FnLastBitSaid : Prop := fnLastBitRow.holds Try.pinned (OpenSpec.ofChange fnLastBitSpec)

/-- ITS FALSE NEIGHBOUR: 'it returns false'. Refute it at one input. -/
def fnLastBitWrong : ChangeSpec := { name := "fnLastBit", fn := fun _ => fun
  | [d1, d2, d3] => { results := [.lit (.bool false)], args := [d1, d2, d3] }
  | _ => none }
def FnLastBitWrongFalsely : Prop := fnLastBitRow.holds Try.pinned (OpenSpec.ofChange fnLastBitWrong)

/-- 'laws.FnSwapKeepsAll': WHATEVER THE INPUT: true; the input reads as it did. -/
def fnSwapKeepsAllSpec : ChangeSpec := { name := "fnSwapKeepsAll", fn := fun _ => fun
  | [d1, d2, d3] => { results := [.lit (.bool true)], args := [d1, d2, d3] }
  | _ => none }
def fnSwapKeepsAllRow : OpenClaim := { program := "ytjjmjjbeecmmlab", sum := "595a1c06dfcc02439bbd3ccc151815a1821616fe755fc57d32c149c32b79c1ba", func := "loop.example/lib-g01437/laws.FnSwapKeepsAll", spec := "fnSwapKeepsAll", inPlace := ["sync/atomic.StoreUint64", "sync/atomic.LoadUint64", "sync/atomic.AddUint64", "sync/atomic.SwapUint64", "sync/atomic.CompareAndSwapUint64", "sync/atomic.AndUint64", "sync/atomic.OrUint64"], apart := false }
def FnSwapKeepsAllSaid : Prop := fnSwapKeepsAllRow.holds Try.pinned (OpenSpec.ofChange fnSwapKeepsAllSpec)

/-- ITS FALSE NEIGHBOUR: 'it returns false'. Refute it at one input. -/
def fnSwapKeepsAllWrong : ChangeSpec := { name := "fnSwapKeepsAll", fn := fun _ => fun
  | [d1, d2, d3] => { results := [.lit (.bool false)], args := [d1, d2, d3] }
  | _ => none }
def FnSwapKeepsAllWrongFalsely : Prop := fnSwapKeepsAllRow.holds Try.pinned (OpenSpec.ofChange fnSwapKeepsAllWrong)

/-- 'laws.FnSetOfBits': WHATEVER THE INPUT: true; the input reads as it did. -/
def fnSetOfBitsSpec : ChangeSpec := { name := "fnSetOfBits", fn := fun _ => fun
  | [d1, d2] => { results := [.lit (.bool true)], args := [d1, d2] }
  | _ => none }
def fnSetOfBitsRow : OpenClaim := { program := "ytjjmjjbeecmmlab", sum := "595a1c06dfcc02439bbd3ccc151815a1821616fe755fc57d32c149c32b79c1ba", func := "loop.example/lib-g01437/laws.FnSetOfBits", spec := "fnSetOfBits", inPlace := ["sync/atomic.StoreUint64", "sync/atomic.LoadUint64", "sync/atomic.AddUint64", "sync/atomic.SwapUint64", "sync/atomic.CompareAndSwapUint64", "sync/atomic.AndUint64", "sync/atomic.OrUint64"], apart := false }
def FnSetOfBitsSaid : Prop := fnSetOfBitsRow.holds Try.pinned (OpenSpec.ofChange fnSetOfBitsSpec)

/-- ITS FALSE NEIGHBOUR: 'it returns false'. Refute it at one input. -/
def fnSetOfBitsWrong : ChangeSpec := { name := "fnSetOfBits", fn := fun _ => fun
  | [d1, d2] => { results := [.lit (.bool false)], args := [d1, d2] }
  | _ => none }
def FnSetOfBitsWrongFalsely : Prop := fnSetOfBitsRow.holds Try.pinned (OpenSpec.ofChange fnSetOfBitsWrong)

/-- 'laws.FnTickets': WHATEVER THE INPUT: true; the input reads as it did. -/
def fnTicketsSpec : ChangeSpec := { name := "fnTickets", fn := fun _ => fun
  | [d1, d2] => { results := [.lit (.bool true)], args := [d1, d2] }
  | _ => none }
def fnTicketsRow : OpenClaim := { program := "ytjjmjjbeecmmlab", sum := "595a1c06dfcc02439bbd3ccc151815a1821616fe755fc57d32c149c32b79c1ba", func := "loop.example/lib-g01437/laws.FnTickets", spec := "fnTickets", inPlace := ["sync/atomic.StoreUint64", "sync/atomic.LoadUint64", "sync/atomic.AddUint64", "sync/atomic.SwapUint64", "sync/atomic.CompareAndSwapUint64", "sync/atomic.AndUint64", "sync/atomic.OrUint64"], apart := false }
def FnTicketsSaid : Prop := fnTicketsRow.holds Try.pinned (OpenSpec.ofChange fnTicketsSpec)

/-- ITS FALSE NEIGHBOUR: 'it returns false'. Refute it at one input. -/
def fnTicketsWrong : ChangeSpec := { name := "fnTickets", fn := fun _ => fun
  | [d1, d2] => { results := [.lit (.bool false)], args := [d1, d2] }
  | _ => none }
def FnTicketsWrongFalsely : Prop := fnTicketsRow.holds Try.pinned (OpenSpec.ofChange fnTicketsWrong)

/-- 'laws.FnLock': WHATEVER THE INPUT: true; the input reads as it did. -/
def fnLockSpec : ChangeSpec := { name := "fnLock", fn := fun _ => fun
  | [d1, d2] => { results := [.lit (.bool true)], args := [d1, d2] }
  | _ => none }
def fnLockRow : OpenClaim := { program := "ytjjmjjbeecmmlab", sum := "595a1c06dfcc02439bbd3ccc151815a1821616fe755fc57d32c149c32b79c1ba", func := "loop.example/lib-g01437/laws.FnLock", spec := "fnLock", inPlace := ["sync/atomic.StoreUint64", "sync/atomic.LoadUint64", "sync/atomic.AddUint64", "sync/atomic.SwapUint64", "sync/atomic.CompareAndSwapUint64", "sync/atomic.AndUint64", "sync/atomic.OrUint64"], apart := false }
def FnLockSaid : Prop := fnLockRow.holds Try.pinned (OpenSpec.ofChange fnLockSpec)

/-- ITS FALSE NEIGHBOUR: 'it returns false'. Refute it at one input. -/
def fnLockWrong : ChangeSpec := { name := "fnLock", fn := fun _ => fun
  | [d1, d2] => { results := [.lit (.bool false)], args := [d1, d2] }
  | _ => none }
def FnLockWrongFalsely : Prop := fnLockRow.holds Try.pinned (OpenSpec.ofChange fnLockWrong)

/-- 'laws.FnChain': WHATEVER THE INPUT: true; the input reads as it did. -/
def fnChainSpec : ChangeSpec := { name := "fnChain", fn := fun _ => fun
  | [d] => { results := [.lit (.bool true)], args := [d] }
  | _ => none }
def fnChainRow : OpenClaim := { program := "ytjjmjjbeecmmlab", sum := "595a1c06dfcc02439bbd3ccc151815a1821616fe755fc57d32c149c32b79c1ba", func := "loop.example/lib-g01437/laws.FnChain", spec := "fnChain", inPlace := ["sync/atomic.StoreUint64", "sync/atomic.LoadUint64", "sync/atomic.AddUint64", "sync/atomic.SwapUint64", "sync/atomic.CompareAndSwapUint64", "sync/atomic.AndUint64", "sync/atomic.OrUint64"], apart := false }
def FnChainSaid : Prop := fnChainRow.holds Try.pinned (OpenSpec.ofChange fnChainSpec)

/-- ITS FALSE NEIGHBOUR: 'it returns false'. Refute it at one input. -/
def fnChainWrong : ChangeSpec := { name := "fnChain", fn := fun _ => fun
  | [d] => { results := [.lit (.bool false)], args := [d] }
  | _ => none }
def FnChainWrongFalsely : Prop := fnChainRow.holds Try.pinned (OpenSpec.ofChange fnChainWrong)

/- THE SECOND FORM. 'bulk': how many values and letters a reading holds, each counted each time it is reached (what is shared counts as often as it is met; a slice's spare places count too). A statement '..UptoSaid' is the law's where the arguments, and the package variables that the reading takes, are together of bulk at most 1048576: NARROWER than '..Said'. Prove '..Said' where nothing that the law and all that it calls make is longer than what came in: it says more and counts as full. Else prove '..UptoSaid'. A law counts once. -/
mutual
def uptoBulk {H : Type} : DataW H → Nat
  | .lit (.string bytes) => bytes.length + 1
  | .lit _ => 1
  | .nil => 1
  | .ptr d => uptoBulk d + 1
  | .slice elems spare => uptoBulkAll elems + uptoBulkAll spare + 1
  | .agg parts => uptoBulkAll parts + 1
  | .iface _ d => uptoBulk d + 1
  | .map entries => uptoBulkEntries entries + 1
  | .held _ => 1
def uptoBulkAll {H : Type} : List (DataW H) → Nat
  | [] => 0
  | d :: r => uptoBulk d + uptoBulkAll r
def uptoBulkEntries {H : Type} : List (Lit × DataW H) → Nat
  | [] => 0
  | x :: r => uptoBulkEntry x + uptoBulkEntries r
def uptoBulkEntry {H : Type} : Lit × DataW H → Nat
  | (.string bytes, d) => bytes.length + uptoBulk d + 1
  | (_, d) => uptoBulk d + 1
 end
def uptoSmall : (H : Type) → List (DataW H) → Bool := fun _ ds => decide (uptoBulkAll ds ≤ 1048576)
def OpenSpec.upto (s : _root_.Go.ChangeSpec) : _root_.Go.OpenSpec := { _root_.Go.OpenSpec.ofChange s with cond := some uptoSmall }

/-- 'laws.FnLastBit', WHERE WHAT IT READS IS OF BULK AT MOST 1048576: true; the input reads as it did. -/
def fnLastBitUptoRow : OpenClaim := { program := "ytjjmjjbeecmmlab", sum := "595a1c06dfcc02439bbd3ccc151815a1821616fe755fc57d32c149c32b79c1ba", func := "loop.example/lib-g01437/laws.FnLastBit", spec := "fnLastBit", inPlace := ["sync/atomic.StoreUint64", "sync/atomic.LoadUint64", "sync/atomic.AddUint64", "sync/atomic.SwapUint64", "sync/atomic.CompareAndSwapUint64", "sync/atomic.AndUint64", "sync/atomic.OrUint64"], apart := false, narrowed := true }
def FnLastBitUptoSaid : Prop := fnLastBitUptoRow.holds Try.pinned (OpenSpec.upto fnLastBitSpec)

/-- 'laws.FnSwapKeepsAll', WHERE WHAT IT READS IS OF BULK AT MOST 1048576: true; the input reads as it did. -/
def fnSwapKeepsAllUptoRow : OpenClaim := { program := "ytjjmjjbeecmmlab", sum := "595a1c06dfcc02439bbd3ccc151815a1821616fe755fc57d32c149c32b79c1ba", func := "loop.example/lib-g01437/laws.FnSwapKeepsAll", spec := "fnSwapKeepsAll", inPlace := ["sync/atomic.StoreUint64", "sync/atomic.LoadUint64", "sync/atomic.AddUint64", "sync/atomic.SwapUint64", "sync/atomic.CompareAndSwapUint64", "sync/atomic.AndUint64", "sync/atomic.OrUint64"], apart := false, narrowed := true }
def FnSwapKeepsAllUptoSaid : Prop := fnSwapKeepsAllUptoRow.holds Try.pinned (OpenSpec.upto fnSwapKeepsAllSpec)

/-- 'laws.FnSetOfBits', WHERE WHAT IT READS IS OF BULK AT MOST 1048576: true; the input reads as it did. -/
def fnSetOfBitsUptoRow : OpenClaim := { program := "ytjjmjjbeecmmlab", sum := "595a1c06dfcc02439bbd3ccc151815a1821616fe755fc57d32c149c32b79c1ba", func := "loop.example/lib-g01437/laws.FnSetOfBits", spec := "fnSetOfBits", inPlace := ["sync/atomic.StoreUint64", "sync/atomic.LoadUint64", "sync/atomic.AddUint64", "sync/atomic.SwapUint64", "sync/atomic.CompareAndSwapUint64", "sync/atomic.AndUint64", "sync/atomic.OrUint64"], apart := false, narrowed := true }
def FnSetOfBitsUptoSaid : Prop := fnSetOfBitsUptoRow.holds Try.pinned (OpenSpec.upto fnSetOfBitsSpec)

/-- 'laws.FnTickets', WHERE WHAT IT READS IS OF BULK AT MOST 1048576: true; the input reads as it did. -/
def fnTicketsUptoRow : OpenClaim := { program := "ytjjmjjbeecmmlab", sum := "595a1c06dfcc02439bbd3ccc151815a1821616fe755fc57d32c149c32b79c1ba", func := "loop.example/lib-g01437/laws.FnTickets", spec := "fnTickets", inPlace := ["sync/atomic.StoreUint64", "sync/atomic.LoadUint64", "sync/atomic.AddUint64", "sync/atomic.SwapUint64", "sync/atomic.CompareAndSwapUint64", "sync/atomic.AndUint64", "sync/atomic.OrUint64"], apart := false, narrowed := true }
def FnTicketsUptoSaid : Prop := fnTicketsUptoRow.holds Try.pinned (OpenSpec.upto fnTicketsSpec)

/-- 'laws.FnLock', WHERE WHAT IT READS IS OF BULK AT MOST 1048576: true; the input reads as it did. -/
def fnLockUptoRow : OpenClaim := { program := "ytjjmjjbeecmmlab", sum := "595a1c06dfcc02439bbd3ccc151815a1821616fe755fc57d32c149c32b79c1ba", func := "loop.example/lib-g01437/laws.FnLock", spec := "fnLock", inPlace := ["sync/atomic.StoreUint64", "sync/atomic.LoadUint64", "sync/atomic.AddUint64", "sync/atomic.SwapUint64", "sync/atomic.CompareAndSwapUint64", "sync/atomic.AndUint64", "sync/atomic.OrUint64"], apart := false, narrowed := true }
def FnLockUptoSaid : Prop := fnLockUptoRow.holds Try.pinned (OpenSpec.upto fnLockSpec)

/-- 'laws.FnChain', WHERE WHAT IT READS IS OF BULK AT MOST 1048576: true; the input reads as it did. -/
def fnChainUptoRow : OpenClaim := { program := "ytjjmjjbeecmmlab", sum := "595a1c06dfcc02439bbd3ccc151815a1821616fe755fc57d32c149c32b79c1ba", func := "loop.example/lib-g01437/laws.FnChain", spec := "fnChain", inPlace := ["sync/atomic.StoreUint64", "sync/atomic.LoadUint64", "sync/atomic.AddUint64", "sync/atomic.SwapUint64", "sync/atomic.CompareAndSwapUint64", "sync/atomic.AndUint64", "sync/atomic.OrUint64"], apart := false, narrowed := true }
def FnChainUptoSaid : Prop := fnChainUptoRow.holds Try.pinned (OpenSpec.upto fnChainSpec)

end Rows
end Go.Proofs.Ytjjmjjbeecmmlab
