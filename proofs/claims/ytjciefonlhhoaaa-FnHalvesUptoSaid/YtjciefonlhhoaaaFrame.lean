/-
  What a law is told of its arguments: slices that came in, read as lists of numbers, and how large they are.
-/
import Derived.Test.YtjciefonlhhoaaaRows
import Derived.Test.YtjciefonlhhoaaaPlain
import Derived.OpenShut
import Derived.ShutString
import Derived.ChangeOld
import Derived.Below
import Derived.JoinedCond
import Derived.SizedLaws
namespace Go.Proofs.Ytjciefonlhhoaaa
set_option linter.unusedVariables false
set_option linter.unusedSimpArgs false
open Go.ChangeShapes Go.WideShapes Go.ChangeAt Go.RowKit

theorem own : ownKnob Try.prog.godebug = none := by kernel_rfl
theorem laidOut : laidOutB Try.prog = true := by kernel_rfl

theorem bulk_one {H : Type} (d : DataW H) : 1 ≤ Rows.uptoBulk d := by
  cases d with
  | lit l => cases l <;> simp [Rows.uptoBulk]
  | _ => simp [Rows.uptoBulk]

theorem bulk_length {H : Type} (l : List (DataW H)) : l.length ≤ Rows.uptoBulkAll l := by
  induction l with
  | nil => simp [Rows.uptoBulkAll]
  | cons x r ih => have := bulk_one x; simp only [Rows.uptoBulkAll, List.length_cons]; omega

theorem bulk_slice {H : Type} (el sp : List (DataW H)) : el.length + sp.length + 1 ≤ Rows.uptoBulk (.slice el sp) := by
  have h1 := bulk_length el
  have h2 := bulk_length sp
  simp only [Rows.uptoBulk]
  omega

/-- A slice that came in. -/
def Came (w : World) (a : Option Addr) (n c : Nat) (xs : List Value) : Prop := Rd w a xs ∧ xs.length = n ∧ n ≤ c ∧ (a = none → c = 0)

theorem came_of {H : Type} {enc : TypeId × Value → H} {P : Program} {W : World} {t e : TypeId} {k : IntKind} {a : Option Addr} {n c : Nat} {d : DataW H} {p : List MemPlace}
    (ht : P.underlying t = some (.slice e)) (he : P.underlying e = some (.int k)) (hc : P.cellsOf e = 1) (h : DataW.Trod enc P W 0 (fun _ => true) true t (.slice a n c) d p) :
    ∃ zs : List Int, zs.length = n ∧ Came W a n c (zs.map (.int k)) ∧ (∀ z ∈ zs, (Lit.int k z).wf = true) ∧ n + 1 ≤ Rows.uptoBulk d ∧ (n = 0 ∨ ∃ el sp, d = .slice el sp ∧ n ≤ el.length + sp.length) := by
  obtain ⟨fuel, hf⟩ := h
  rcases open_ints ht he hc hf with ⟨hcs, _⟩ | ⟨x, l, c', zs, hcs, _, hl, hm, hz, hx, hcell, hwz⟩
  · simp [Value.cells] at hcs
    obtain ⟨rfl, rfl, rfl⟩ := hcs
    exact ⟨[], rfl, ⟨Rd.nil _ _, rfl, Nat.le_refl _, fun _ => rfl⟩, by simp, by have := bulk_one d; omega, .inl rfl⟩
  · simp [Value.cells] at hcs
    obtain ⟨rfl, rfl, rfl⟩ := hcs
    simp only [↓reduceIte] at hz
    simp only [Prod.mk.injEq] at hx
    have hlen : (zs.take n).length = n := by simp; omega
    refine ⟨zs.take n, hlen, ⟨?_, by simpa using hlen, hl, by simp⟩, fun z hz' => hwz z (List.mem_of_mem_take hz'), ?_, .inr ⟨_, _, hx.1, ?_⟩⟩
    · intro i hi
      simp at hi
      obtain ⟨b, off, he', hc'⟩ := ints_at hcell (by omega)
      refine ⟨b, off, by rw [he'], ?_⟩
      rw [hc' i (by omega)]
      have hi' : i < zs.length := by omega
      simp [List.getElem?_take, hi, hi', List.getD]
    · rw [hx.1]
      have := bulk_slice (H := H) (lits k (zs.take n)) (lits k (zs.drop n))
      have e : (lits (H := H) k (zs.take n)).length = (zs.take n).length := by simp [lits]
      omega
    · simp only [lits, List.length_map]
      omega

theorem u64s {zs : List Int} (h : ∀ z ∈ zs, (Lit.int .u64 z).wf = true) : ∃ xs : List (BitVec 64), zs.map (.int .u64) = U xs := by
  refine ⟨zs.map (BitVec.ofInt 64), ?_⟩
  simp only [U, List.map_map]
  refine List.map_congr_left fun z hz => ?_
  have := h z hz
  simp [Lit.wf, IntKind.min, IntKind.max, IntKind.signed, IntKind.bits] at this
  simp only [Function.comp, Value.int.injEq, true_and, BitVec.toNat_ofInt]
  omega
theorem u8s {zs : List Int} (h : ∀ z ∈ zs, (Lit.int .u8 z).wf = true) : ∃ xs : List (BitVec 8), zs.map (.int .u8) = U8 xs := by
  refine ⟨zs.map (BitVec.ofInt 8), ?_⟩
  simp only [U8, List.map_map]
  refine List.map_congr_left fun z hz => ?_
  have := h z hz
  simp [Lit.wf, IntKind.min, IntKind.max, IntKind.signed, IntKind.bits] at this
  simp only [Function.comp, Value.int.injEq, true_and, BitVec.toNat_ofInt]
  omega
theorem i8s {zs : List Int} (h : ∀ z ∈ zs, (Lit.int .i8 z).wf = true) : ∃ xs : List (BitVec 8), zs.map (Value.int .i8) = I8 xs := by
  refine ⟨zs.map (BitVec.ofInt 8), ?_⟩
  simp only [I8, List.map_map]
  refine List.map_congr_left fun z hz => ?_
  have := h z hz
  simp [Lit.wf, IntKind.min, IntKind.max, IntKind.signed, IntKind.bits] at this
  simp only [Function.comp, Value.int.injEq, true_and, BitVec.toInt_ofInt, Int.bmod]
  split <;> omega
theorem u64n {z : Int} (h : (Lit.int .u64 z).wf = true) : ∃ x : BitVec 64, z = (x.toNat : Int) := by
  simp [Lit.wf, IntKind.min, IntKind.max, IntKind.signed, IntKind.bits] at h
  exact ⟨BitVec.ofInt 64 z, by simp only [BitVec.toNat_ofInt]; omega⟩
theorem u8n {z : Int} (h : (Lit.int .u8 z).wf = true) : ∃ x : BitVec 8, z = (x.toNat : Int) := by
  simp [Lit.wf, IntKind.min, IntKind.max, IntKind.signed, IntKind.bits] at h
  exact ⟨BitVec.ofInt 8 z, by simp only [BitVec.toNat_ofInt]; omega⟩
theorem i8n {z : Int} (h : (Lit.int .i8 z).wf = true) : ∃ x : BitVec 8, z = x.toInt := by
  simp [Lit.wf, IntKind.min, IntKind.max, IntKind.signed, IntKind.bits] at h
  exact ⟨BitVec.ofInt 8 z, by simp only [BitVec.toInt_ofInt, Int.bmod]; split <;> omega⟩
theorem i64n {z : Int} (h : (Lit.int .i64 z).wf = true) : -9223372036854775808 ≤ z ∧ z ≤ 9223372036854775807 := by
  simpa [Lit.wf, IntKind.min, IntKind.max, IntKind.signed, IntKind.bits] using h

/-- The same, the list's own length told. -/
def Came64 (w : World) (a : Option Addr) (n c : Nat) (xs : List (BitVec 64)) : Prop := Rd w a (U xs) ∧ xs.length = n ∧ n ≤ c ∧ (a = none → c = 0)
def Came8 (w : World) (a : Option Addr) (n c : Nat) (xs : List (BitVec 8)) : Prop := Rd w a (U8 xs) ∧ xs.length = n ∧ n ≤ c ∧ (a = none → c = 0)
theorem Came.u64 {w : World} {a : Option Addr} {n c : Nat} {xs : List (BitVec 64)} (h : Came w a n c (U xs)) : Came64 w a n c xs := ⟨h.1, by simpa using h.2.1, h.2.2⟩
theorem Came.u8 {w : World} {a : Option Addr} {n c : Nat} {xs : List (BitVec 8)} (h : Came w a n c (U8 xs)) : Came8 w a n c xs := ⟨h.1, by simpa using h.2.1, h.2.2⟩
theorem Came64.nil0 {w : World} {a : Option Addr} {n c : Nat} {xs : List (BitVec 64)} (h : Came64 w a n c xs) : a = none → n = 0 ∧ c = 0 := fun e => by have := h.2.2.2 e; have := h.2.2.1; omega

/-- The form's own bound on a slice that was read. -/
theorem came_reach {H : Type} {P : Program} {ts : List TypeId} {ds : List (DataW H)} (h : (DataW.weightsEach P ts ds).all (· ≤ reachBytes) = true) {j t e n b : Nat} {d : DataW H} (ht : ts[j]? = some t) (hd : ds[j]? = some d)
    (hu : P.underlying t = some (.slice e)) (hb : P.bytesOf e = b) (hn : n = 0 ∨ ∃ el sp, d = .slice el sp ∧ n ≤ el.length + sp.length) : n * b ≤ 140737488351232 := by
  rcases hn with rfl | ⟨el, sp, rfl, hn⟩
  · simp
  · have := sized_slice h ht hd hu
    rw [hb] at this
    have h2 : n * b ≤ (el.length + sp.length) * b := Nat.mul_le_mul_right _ hn
    simp only [reachBytes] at this
    omega
end Go.Proofs.Ytjciefonlhhoaaa
