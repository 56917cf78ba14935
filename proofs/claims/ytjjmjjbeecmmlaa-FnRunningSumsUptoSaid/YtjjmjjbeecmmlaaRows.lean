/-
  No cell of these rows narrows 'for every input' (looked for: loops, veiled, ifaces, maps, wideKeys, modest, calm, conditions, laid).
  DERIVED. THE GIVEN ROWS OF THIS SEAT. 6 by the template 'for every input the law returns true; each argument reads behind the call as it read before'; 0 by the template 'total and deterministic' (their statements: YtjjmjjbeecmmlaaTotals.lean).
  GIVEN WITH THE SEED: the statements are not yours to turn. If you find one false, say at which input.
  Laid BY PROGRAM, IN A SANDBOX (cutbox-rows.mjs): the forced cells as the released guide's own fill.sh prints them over the translation 03cc52c963b50e46… (all of the seat's roots in one cut). By AI agents, Wed Nov 11 2026. No macro, syntax, notation, axiom, sorry.
-/
import Derived.Test.YtjjmjjbeecmmlaaChecked
import GoSem.Claim
import GoSem.ClaimJoined
import GoSem.ClaimMapViews
import Derived.JoinedTies
import Derived.KernelRfl
namespace Go.Proofs.Ytjjmjjbeecmmlaa
/- THE CELL 'sum', in the pinned program and in every row, IS THE sha256 OF THE DUMP (.gsa) THAT YtjjmjjbeecmmlaaProg.lean LOADS. Nothing in Lean hashes anything: it is a label: what it is worth is what the hold of that sum in a sandbox is worth. -/
noncomputable def Try.pinned : Pinned := { name := "ytjjmjjbeecmmlaa", sum := "03cc52c963b50e4643c4a963fca413d44b57b362da76af6fde133bd4803e42bb", checked := Try.checked }
namespace Rows
def none {H : Type} : Left H := { results := [], args := [] }

/-- 'laws.FnCellsApart': WHATEVER THE INPUT: true; the input reads as it did. -/
def fnCellsApartSpec : ChangeSpec := { name := "fnCellsApart", fn := fun _ => fun
  | [d1, d2, d3] => { results := [.lit (.bool true)], args := [d1, d2, d3] }
  | _ => none }
def fnCellsApartRow : OpenClaim := { program := "ytjjmjjbeecmmlaa", sum := "03cc52c963b50e4643c4a963fca413d44b57b362da76af6fde133bd4803e42bb", func := "loop.example/lib-g01437/laws.FnCellsApart", spec := "fnCellsApart", inPlace := ["sync/atomic.StoreUint64", "sync/atomic.LoadUint64", "sync/atomic.AddUint64", "sync/atomic.SwapUint64", "sync/atomic.CompareAndSwapUint64", "sync/atomic.AndUint64", "sync/atomic.OrUint64"], apart := false }
def FnCellsApartSaid : Prop := fnCellsApartRow.holds Try.pinned (OpenSpec.ofChange fnCellsApartSpec)

/-- ITS FALSE NEIGHBOUR: 'it returns false'. Refute it at one input. -/
def fnCellsApartWrong : ChangeSpec := { name := "fnCellsApart", fn := fun _ => fun
  | [d1, d2, d3] => { results := [.lit (.bool false)], args := [d1, d2, d3] }
  | _ => none }
def FnCellsApartWrongFalsely : Prop := fnCellsApartRow.holds Try.pinned (OpenSpec.ofChange fnCellsApartWrong)

/-- 'laws.FnCellsAsDefined': WHATEVER THE INPUT: true; the input reads as it did. -/
def fnCellsAsDefinedSpec : ChangeSpec := { name := "fnCellsAsDefined", fn := fun _ => fun
  | [d1, d2, d3] => { results := [.lit (.bool true)], args := [d1, d2, d3] }
  | _ => none }
def fnCellsAsDefinedRow : OpenClaim := { program := "ytjjmjjbeecmmlaa", sum := "03cc52c963b50e4643c4a963fca413d44b57b362da76af6fde133bd4803e42bb", func := "loop.example/lib-g01437/laws.FnCellsAsDefined", spec := "fnCellsAsDefined", inPlace := ["sync/atomic.StoreUint64", "sync/atomic.LoadUint64", "sync/atomic.AddUint64", "sync/atomic.SwapUint64", "sync/atomic.CompareAndSwapUint64", "sync/atomic.AndUint64", "sync/atomic.OrUint64"], apart := false }
def FnCellsAsDefinedSaid : Prop := fnCellsAsDefinedRow.holds Try.pinned (OpenSpec.ofChange fnCellsAsDefinedSpec)

/-- ITS FALSE NEIGHBOUR: 'it returns false'. Refute it at one input. -/
def fnCellsAsDefinedWrong : ChangeSpec := { name := "fnCellsAsDefined", fn := fun _ => fun
  | [d1, d2, d3] => { results := [.lit (.bool false)], args := [d1, d2, d3] }
  | _ => none }
def FnCellsAsDefinedWrongFalsely : Prop := fnCellsAsDefinedRow.holds Try.pinned (OpenSpec.ofChange fnCellsAsDefinedWrong)

/-- 'laws.FnOwnCell': WHATEVER THE INPUT: true; the input reads as it did. -/
def fnOwnCellSpec : ChangeSpec := { name := "fnOwnCell", fn := fun _ => fun
  | [d1, d2, d3, d4] => { results := [.lit (.bool true)], args := [d1, d2, d3, d4] }
  | _ => none }
def fnOwnCellRow : OpenClaim := { program := "ytjjmjjbeecmmlaa", sum := "03cc52c963b50e4643c4a963fca413d44b57b362da76af6fde133bd4803e42bb", func := "loop.example/lib-g01437/laws.FnOwnCell", spec := "fnOwnCell", inPlace := ["sync/atomic.StoreUint64", "sync/atomic.LoadUint64", "sync/atomic.AddUint64", "sync/atomic.SwapUint64", "sync/atomic.CompareAndSwapUint64", "sync/atomic.AndUint64", "sync/atomic.OrUint64"], apart := false }
def FnOwnCellSaid : Prop := fnOwnCellRow.holds Try.pinned (OpenSpec.ofChange fnOwnCellSpec)

/-- ITS FALSE NEIGHBOUR: 'it returns false'. Refute it at one input. -/
def fnOwnCellWrong : ChangeSpec := { name := "fnOwnCell", fn := fun _ => fun
  | [d1, d2, d3, d4] => { results := [.lit (.bool false)], args := [d1, d2, d3, d4] }
  | _ => none }
def FnOwnCellWrongFalsely : Prop := fnOwnCellRow.holds Try.pinned (OpenSpec.ofChange fnOwnCellWrong)

/-- 'laws.FnManyParts': WHATEVER THE INPUT: true; the input reads as it did. -/
def fnManyPartsSpec : ChangeSpec := { name := "fnManyParts", fn := fun _ => fun
  | [d1, d2, d3, d4] => { results := [.lit (.bool true)], args := [d1, d2, d3, d4] }
  | _ => none }
def fnManyPartsRow : OpenClaim := { program := "ytjjmjjbeecmmlaa", sum := "03cc52c963b50e4643c4a963fca413d44b57b362da76af6fde133bd4803e42bb", func := "loop.example/lib-g01437/laws.FnManyParts", spec := "fnManyParts", inPlace := ["sync/atomic.StoreUint64", "sync/atomic.LoadUint64", "sync/atomic.AddUint64", "sync/atomic.SwapUint64", "sync/atomic.CompareAndSwapUint64", "sync/atomic.AndUint64", "sync/atomic.OrUint64"], apart := false }
def FnManyPartsSaid : Prop := fnManyPartsRow.holds Try.pinned (OpenSpec.ofChange fnManyPartsSpec)

/-- ITS FALSE NEIGHBOUR: 'it returns false'. Refute it at one input. -/
def fnManyPartsWrong : ChangeSpec := { name := "fnManyParts", fn := fun _ => fun
  | [d1, d2, d3, d4] => { results := [.lit (.bool false)], args := [d1, d2, d3, d4] }
  | _ => none }
def FnManyPartsWrongFalsely : Prop := fnManyPartsRow.holds Try.pinned (OpenSpec.ofChange fnManyPartsWrong)

/-- 'laws.FnUndone': WHATEVER THE INPUT: true; the input reads as it did. -/
def fnUndoneSpec : ChangeSpec := { name := "fnUndone", fn := fun _ => fun
  | [d1, d2, d3] => { results := [.lit (.bool true)], args := [d1, d2, d3] }
  | _ => none }
def fnUndoneRow : OpenClaim := { program := "ytjjmjjbeecmmlaa", sum := "03cc52c963b50e4643c4a963fca413d44b57b362da76af6fde133bd4803e42bb", func := "loop.example/lib-g01437/laws.FnUndone", spec := "fnUndone", inPlace := ["sync/atomic.StoreUint64", "sync/atomic.LoadUint64", "sync/atomic.AddUint64", "sync/atomic.SwapUint64", "sync/atomic.CompareAndSwapUint64", "sync/atomic.AndUint64", "sync/atomic.OrUint64"], apart := false }
def FnUndoneSaid : Prop := fnUndoneRow.holds Try.pinned (OpenSpec.ofChange fnUndoneSpec)

/-- ITS FALSE NEIGHBOUR: 'it returns false'. Refute it at one input. -/
def fnUndoneWrong : ChangeSpec := { name := "fnUndone", fn := fun _ => fun
  | [d1, d2, d3] => { results := [.lit (.bool false)], args := [d1, d2, d3] }
  | _ => none }
def FnUndoneWrongFalsely : Prop := fnUndoneRow.holds Try.pinned (OpenSpec.ofChange fnUndoneWrong)

/-- 'laws.FnRunningSums': WHATEVER THE INPUT: true; the input reads as it did. -/
def fnRunningSumsSpec : ChangeSpec := { name := "fnRunningSums", fn := fun _ => fun
  | [d1, d2, d3, d4] => { results := [.lit (.bool true)], args := [d1, d2, d3, d4] }
  | _ => none }
def fnRunningSumsRow : OpenClaim := { program := "ytjjmjjbeecmmlaa", sum := "03cc52c963b50e4643c4a963fca413d44b57b362da76af6fde133bd4803e42bb", func := "loop.example/lib-g01437/laws.FnRunningSums", spec := "fnRunningSums", inPlace := ["sync/atomic.StoreUint64", "sync/atomic.LoadUint64", "sync/atomic.AddUint64", "sync/atomic.SwapUint64", "sync/atomic.CompareAndSwapUint64", "sync/atomic.AndUint64", "sync/atomic.OrUint64"], apart := false }
def FnRunningSumsSaid : Prop := fnRunningSumsRow.holds Try.pinned (OpenSpec.ofChange fnRunningSumsSpec)

/-- ITS FALSE NEIGHBOUR: 'it returns false'. Refute it at one input. -/
def fnRunningSumsWrong : ChangeSpec := { name := "fnRunningSums", fn := fun _ => fun
  | [d1, d2, d3, d4] => { results := [.lit (.bool false)], args := [d1, d2, d3, d4] }
  | _ => none }
def FnRunningSumsWrongFalsely : Prop := fnRunningSumsRow.holds Try.pinned (OpenSpec.ofChange fnRunningSumsWrong)

/- THE SECOND FORM. 'bulk': how many values and letters a reading holds, each counted each time it is reached (what is shared counts as often as it is met; a slice's spare places count too). A statement '..UptoSaid' is the law's where the arguments, and the package variables that the reading takes, are together of bulk at most 1048576: NARROWER than '..Said'. Prove '..Said' where nothing that the law and all that it calls make is longer than what came in: it says more and counts as full. Else prove '..UptoSaid'. A law counts once. -/
mutual
def uptoBulk {H : Type} : DataW H → Nat
  | .lit (.string bytes) => bytes.length + 1
  | .lit _ => 1
  | .nil => 1
  | .ptr d => uptoBulk d + 1
  | .slice elems spare => uptoBulkAll elems + uptoBulkAll spare + 1
  | .agg parts => uptoBulkAll parts + 1
  | .iface _ d => uptoBulk d + 1
  | .map entries => uptoBulkEntries entries + 1
  | .held _ => 1
def uptoBulkAll {H : Type} : List (DataW H) → Nat
  | [] => 0
  | d :: r => uptoBulk d + uptoBulkAll r
def uptoBulkEntries {H : Type} : List (Lit × DataW H) → Nat
  | [] => 0
  | x :: r => uptoBulkEntry x + uptoBulkEntries r
def uptoBulkEntry {H : Type} : Lit × DataW H → Nat
  | (.string bytes, d) => bytes.length + uptoBulk d + 1
  | (_, d) => uptoBulk d + 1
 end
def uptoSmall : (H : Type) → List (DataW H) → Bool := fun _ ds => decide (uptoBulkAll ds ≤ 1048576)
def OpenSpec.upto (s : _root_.Go.ChangeSpec) : _root_.Go.OpenSpec := { _root_.Go.OpenSpec.ofChange s with cond := some uptoSmall }

/-- 'laws.FnCellsApart', WHERE WHAT IT READS IS OF BULK AT MOST 1048576: true; the input reads as it did. -/
def fnCellsApartUptoRow : OpenClaim := { program := "ytjjmjjbeecmmlaa", sum := "03cc52c963b50e4643c4a963fca413d44b57b362da76af6fde133bd4803e42bb", func := "loop.example/lib-g01437/laws.FnCellsApart", spec := "fnCellsApart", inPlace := ["sync/atomic.StoreUint64", "sync/atomic.LoadUint64", "sync/atomic.AddUint64", "sync/atomic.SwapUint64", "sync/atomic.CompareAndSwapUint64", "sync/atomic.AndUint64", "sync/atomic.OrUint64"], apart := false, narrowed := true }
def FnCellsApartUptoSaid : Prop := fnCellsApartUptoRow.holds Try.pinned (OpenSpec.upto fnCellsApartSpec)

/-- 'laws.FnCellsAsDefined', WHERE WHAT IT READS IS OF BULK AT MOST 1048576: true; the input reads as it did. -/
def fnCellsAsDefinedUptoRow : OpenClaim := { program := "ytjjmjjbeecmmlaa", sum := "03cc52c963b50e4643c4a963fca413d44b57b362da76af6fde133bd4803e42bb", func := "loop.example/lib-g01437/laws.FnCellsAsDefined", spec := "fnCellsAsDefined", inPlace := ["sync/atomic.StoreUint64", "sync/atomic.LoadUint64", "sync/atomic.AddUint64", "sync/atomic.SwapUint64", "sync/atomic.CompareAndSwapUint64", "sync/atomic.AndUint64", "sync/atomic.OrUint64"], apart := false, narrowed := true }
def FnCellsAsDefinedUptoSaid : Prop := fnCellsAsDefinedUptoRow.holds Try.pinned (OpenSpec.upto fnCellsAsDefinedSpec)

/-- 'laws.FnOwnCell', WHERE WHAT IT READS IS OF BULK AT MOST 1048576: true; the input reads as it did. -/
def fnOwnCellUptoRow : OpenClaim := { program := "ytjjmjjbeecmmlaa", sum := "03cc52c963b50e4643c4a963fca413d44b57b362da76af6fde133bd4803e42bb", func := "loop.example/lib-g01437/laws.FnOwnCell", spec := "fnOwnCell", inPlace := ["sync/atomic.StoreUint64", "sync/atomic.LoadUint64", "sync/atomic.AddUint64", "sync/atomic.SwapUint64", "sync/atomic.CompareAndSwapUint64", "sync/atomic.AndUint64", "sync/atomic.OrUint64"], apart := false, narrowed := true }
def FnOwnCellUptoSaid : Prop := fnOwnCellUptoRow.holds Try.pinned (OpenSpec.upto fnOwnCellSpec)

/-- 'laws.FnManyParts', WHERE WHAT IT READS IS OF BULK AT MOST 1048576: true; the input reads as it did. -/
def fnManyPartsUptoRow : OpenClaim := { program := "ytjjmjjbeecmmlaa", sum := "03cc52c963b50e4643c4a963fca413d44b57b362da76af6fde133bd4803e42bb", func := "loop.example/lib-g01437/laws.FnManyParts", spec := "fnManyParts", inPlace := ["sync/atomic.StoreUint64", "sync/atomic.LoadUint64", "sync/atomic.AddUint64", "sync/atomic.SwapUint64", "sync/atomic.CompareAndSwapUint64", "sync/atomic.AndUint64", "sync/atomic.OrUint64"], apart := false, narrowed := true }
def FnManyPartsUptoSaid : Prop := fnManyPartsUptoRow.holds Try.pinned (OpenSpec.upto fnManyPartsSpec)

/-- 'laws.FnUndone', WHERE WHAT IT READS IS OF BULK AT MOST 1048576: true; the input reads as it did. -/
def fnUndoneUptoRow : OpenClaim := { program := "ytjjmjjbeecmmlaa", sum := "03cc52c963b50e4643c4a963fca413d44b57b362da76af6fde133bd4803e42bb", func := "loop.example/lib-g01437/laws.FnUndone", spec := "fnUndone", inPlace := ["sync/atomic.StoreUint64", "sync/atomic.LoadUint64", "sync/atomic.AddUint64", "sync/atomic.SwapUint64", "sync/atomic.CompareAndSwapUint64", "sync/atomic.AndUint64", "sync/atomic.OrUint64"], apart := false, narrowed := true }
def FnUndoneUptoSaid : Prop := fnUndoneUptoRow.holds Try.pinned (OpenSpec.upto fnUndoneSpec)

/-- 'laws.FnRunningSums', WHERE WHAT IT READS IS OF BULK AT MOST 1048576: true; the input reads as it did. -/
def fnRunningSumsUptoRow : OpenClaim := { program := "ytjjmjjbeecmmlaa", sum := "03cc52c963b50e4643c4a963fca413d44b57b362da76af6fde133bd4803e42bb", func := "loop.example/lib-g01437/laws.FnRunningSums", spec := "fnRunningSums", inPlace := ["sync/atomic.StoreUint64", "sync/atomic.LoadUint64", "sync/atomic.AddUint64", "sync/atomic.SwapUint64", "sync/atomic.CompareAndSwapUint64", "sync/atomic.AndUint64", "sync/atomic.OrUint64"], apart := false, narrowed := true }
def FnRunningSumsUptoSaid : Prop := fnRunningSumsUptoRow.holds Try.pinned (OpenSpec.upto fnRunningSumsSpec)

end Rows
end Go.Proofs.Ytjjmjjbeecmmlaa
