/-
  The contract of oParents: a list of lists of its own, the parents of each node.
-/
import Derived.Test.YtjjmjjbeecmmladOArgs
namespace Go.Proofs.Ytjjmjjbeecmmlad
set_option linter.unusedVariables false
set_option linter.unusedSimpArgs false
open Go.RowKit

theorem info28 : (Try.prog.info? 28).map (fun i => (i.zero, i.size, i.bytes)) = some (some (.slice none 0 0), 1, 24) := by kernel_rfl
theorem app28s {w : World} {ops : Array Oper} {rest : List Oper} {o : Oper} {a : Act} {Q : Exit → Act → World → Prop} {B : Nat} (p q : List Row) {ra : Option Addr} {n rc : Nat} {xs : List Value} {v : Value} (s x : Operand)
    (hgd : o.guard = none) (ho : o.op = .call { callee := .builtin .append, args := #[s, x], argTypes := #[26, 26] }) (sz : Nat) (hsz : w.heap.size = sz) (hs : a.eval s = .slice ra n rc) (hx : a.eval x = .slice (some ⟨sz, 0, none⟩) 1 1)
    (hown : Owns w B (p ++ ⟨28, ra, n, rc, xs⟩ :: q)) (hv : v.oneCell' = true) (hn : n < 1048576) (hB : B ≤ sz)
    (h : ∀ a' c' w', Owns w' B (p ++ ⟨28, a', n + 1, c', xs ++ [v]⟩ :: q) → Below B w w' → sz ≤ w'.heap.size → wpList Try.prog ops Q rest (a.put o.dst (.slice a' (n + 1) c')) w') :
    wpList Try.prog ops Q (o :: rest) a (w.alloc (.cells #[v] 28)) :=
  wpList_append1s Try.underlying26 info28 rfl (by decide) p q s x sz hsz hgd ho hs hx hown hv (by omega) hB h

/-- The parents that the byte with index k tells for node i. -/
def parAt (links : List (BitVec 8)) (i k : Nat) : List Nat := if k < links.length ∧ (links.getD k 0).toNat % (i + 1) < i then [(links.getD k 0).toNat % (i + 1)] else []
def parOf (links : List (BitVec 8)) (i : Nat) : List Nat := parAt links i (2 * i) ++ parAt links i (2 * i + 1)
/-- Those of the bytes from 2i on, d of them. -/
def parTo (links : List (BitVec 8)) (i d : Nat) : List Nat := (List.range d).flatMap fun e => parAt links i (2 * i + e)

section
variable {links : List (BitVec 8)} {i d : Nat}
theorem parTo_succ : parTo links i (d + 1) = parTo links i d ++ parAt links i (2 * i + d) := by simp [parTo, List.range_succ]
theorem parTo_two : parTo links i 2 = parOf links i := by simp [parTo, parOf, List.range_succ]
theorem parTo_end (h : links.length ≤ 2 * i + d) (hd : d ≤ 2) : parTo links i d = parOf links i := by
  have e : ∀ k, links.length ≤ k → parAt links i k = [] := fun k hk => by unfold parAt; rw [if_neg (by omega)]
  rw [← parTo_two]
  match d, hd with
  | 0, _ => rw [parTo_succ, parTo_succ, e _ (by omega), e _ (by omega)]; simp
  | 1, _ => rw [parTo_succ (d := 1), e _ (by omega)]; simp
  | 2, _ => rfl
theorem parAt_length {k : Nat} : (parAt links i k).length ≤ 1 := by unfold parAt; split <;> simp
theorem parOf_length : (parOf links i).length ≤ 2 := by
  unfold parOf
  have h1 := parAt_length (links := links) (i := i) (k := 2 * i)
  have h2 := parAt_length (links := links) (i := i) (k := 2 * i + 1)
  simp
  omega
theorem parTo_length : (parTo links i d).length ≤ d := by
  induction d with
  | zero => simp [parTo]
  | succ d ih =>
    rw [parTo_succ, List.length_append]
    have := parAt_length (links := links) (i := i) (k := 2 * i + d)
    omega
theorem parOf_less : ∀ p ∈ parOf links i, p < i := by
  intro p hp
  unfold parOf parAt at hp
  rcases List.mem_append.1 hp with h | h
  · split at h
    · rw [List.mem_singleton] at h; omega
    · simp at h
  · split at h
    · rw [List.mem_singleton] at h; omega
    · simp at h
end

/-- The inner rows. -/
def Inner (ps : Nat → List Nat) (R : List Row) (k : Nat) : Prop := R.length = k ∧ ∀ i, (h : i < R.length) → R[i].e = 3 ∧ R[i].n = (ps i).length ∧ R[i].xs = NI (ps i)
theorem Inner.snoc {ps : Nat → List Nat} {R : List Row} {k : Nat} (h : Inner ps R k) (a : Option Addr) (c : Nat) : Inner ps (R ++ [⟨3, a, (ps k).length, c, NI (ps k)⟩]) (k + 1) := by
  refine ⟨by simp [h.1], fun i hi => ?_⟩
  simp at hi
  by_cases hk : i < R.length
  · rw [List.getElem_append_left hk]
    exact h.2 i hk
  · have : i = R.length := by omega
    subst this
    simp [h.1]

/-- What oParents leaves. -/
def Parents (w : World) (n : Nat) (ps : Nat → List Nat) (e : Ending) (w' : World) : Prop :=
  ∃ a c R, e = .returned (.slice a n c) ∧ Inner ps R n ∧ Owns w' w.heap.size (⟨28, a, n, c, R.map Row.val⟩ :: R) ∧ Below w.heap.size w w'

set_option maxRecDepth 100000 in
set_option maxHeartbeats 1600000 in
theorem oParents_any (w : World) (a0 : Option Addr) (l c0 n : Nat) (links : List (BitVec 8)) (hr : Rd w a0 (U8 links)) (hl : links.length = l) (bl : l ≤ 1048576) (bn : n ≤ 1048576) :
    Calls Try.prog 10 #[.slice a0 l c0, .int .i64 (n : Int)] w (Parents w n (parOf links)) := by
  have HR := Lib.hid hr; have HL := Lib.hid hl
  clear hr hl
  have hp := Lib.hid ((Owns.nil w w.heap.size).made (Nat.le_refl _) 28 #[] (by simp))
  have hbp := Lib.hid ((Below.refl w.heap.size w).alloc (Nat.le_refl _) (.cells #[] 28))
  go_enter Try.func10, Try.ntmps10
  go_wp2
  go_loopw [12, 5] (fun i v wr => ∃ (k : Nat) (e0 : Option Addr) (g0 : Nat) (R : List Row), k ≤ n ∧ i = .int .i64 k ∧ v = .slice e0 k g0 ∧ Inner (parOf links) R k ∧ Owns wr w.heap.size (⟨28, e0, k, g0, R.map Row.val⟩ :: R) ∧ Below w.heap.size w wr) (fun i _ _ => n - (intOf i).toNat)
  case atStart => exact ⟨0, _, _, [], Nat.zero_le _, rfl, rfl, ⟨rfl, fun i h => absurd h (by simp)⟩, by simpa using hp.out, hbp.out⟩
  case round =>
    clear hp hbp
    obtain ⟨k, e0, g0, R, hk, rfl, rfl, hin, ho, hb⟩ := hrel
    have hsz := hb.size
    have HI := Lib.hid hin
    clear hin
    by_cases hlt : k < n
    · have O1 := Lib.hid (ho.made hsz 3 #[] (by simp)); have B1 := Lib.hid (hb.alloc hsz (.cells #[] 3))
      obtain ⟨wo, rfl⟩ : ∃ wo : World, wo = wr := ⟨_, rfl⟩
      clear ho hb
      go_wp2
      go_loopw [8, 7] (fun i v wr => ∃ (d : Nat) (e1 : Option Addr) (g1 : Nat), d ≤ 2 ∧ i = .int .i64 (2 * (k : Int) + (d : Int)) ∧ v = .slice e1 (parTo links k d).length g1 ∧ Owns wr w.heap.size (⟨28, e0, k, g0, R.map Row.val⟩ :: (R ++ [⟨3, e1, (parTo links k d).length, g1, NI (parTo links k d)⟩])) ∧ Below w.heap.size w wr) (fun i _ _ => (2 * (k : Int) + 2 - intOf i).toNat)
      case atStart => exact ⟨0, _, _, by omega, by simp, rfl, by simpa [parTo] using O1.out, B1.out⟩
      case round =>
        clear O1 B1 hsz
        obtain ⟨d, e1, g1, hd, rfl, rfl, ho, hb⟩ := hrel
        have hsz := hb.size
        have hpl := parTo_length (links := links) (i := k) (d := d)
        by_cases hin : d < 2 ∧ 2 * k + d < l
        · obtain ⟨hd2, hdl⟩ := hin
          have lj : 2 * k + d < links.length := by rw [HL.out]; exact hdl
          obtain ⟨b, o, rfl, q⟩ := at_u8 HR.out hb (Nat.le_refl _) lj
          obtain ⟨x, hx⟩ : ∃ x, links[2 * k + d] = x := ⟨_, rfl⟩
          rw [hx] at q
          have bx := x.isLt
          obtain ⟨y, hy⟩ : ∃ y, x.toNat % (k + 1) = y := ⟨_, rfl⟩
          have hye : ((x.toNat : Int) % ((k : Int) + 1)) = (y : Int) := by rw [← hy]; simp
          have hyk : y < k + 1 := by rw [← hy]; exact Nat.mod_lt _ (by omega)
          have hg : links.getD (2 * k + d) 0 = x := by rw [← hx]; simp [lj]
          have c1 : 2 * (k : Int) + (d : Int) < 2 * (k : Int) + 2 := by omega
          have c2 : 2 * (k : Int) + (d : Int) < (l : Int) := by omega
          have c3 : (2 * (k : Int) + (d : Int)).toNat = 2 * k + d := by omega
          have c4 : 0 ≤ 2 * (k : Int) + (d : Int) := by omega
          by_cases hlk : y < k
          · have HS : Hid (parTo links k (d + 1) = parTo links k d ++ [y]) := by
              refine Lib.hid ?_
              rw [parTo_succ]
              unfold parAt
              rw [if_pos ⟨lj, by rw [hg, hy]; exact hlk⟩, hg, hy]
            have HO : Hid (Owns wr w.heap.size ((⟨28, e0, k, g0, R.map Row.val⟩ :: R) ++ ⟨3, e1, (parTo links k d).length, g1, NI (parTo links k d)⟩ :: [])) := ho
            have HB := Lib.hid hb
            clear ho hb hx hy hg
            obtain ⟨PT, hPT⟩ : ∃ P, parTo links k d = P := ⟨_, rfl⟩
            rw [hPT] at HO HS hpl ⊢
            clear hPT
            go_wp2_with (at_builtin; refine app3s _ [] (.tmp 42) (.tmp 44) rfl rfl wr.heap.size rfl rfl rfl HO.out rfl (by omega) (by omega) ?_)
            intro e2 g2 w2 ho2 hb2 hs2
            have HR2 : Hid (Owns w2 w.heap.size (⟨28, e0, k, g0, R.map Row.val⟩ :: (R ++ [⟨3, e2, (parTo links k (d + 1)).length, g2, NI (parTo links k (d + 1))⟩]))) := by
              refine Lib.hid ?_
              rw [HS.out, NI_snoc, List.length_append]
              exact ho2
            have HT2 := Lib.hid (HB.out.trans hb2)
            have HLN : Hid ((parTo links k (d + 1)).length = PT.length + 1) := by show _ = _; rw [HS.out]; simp
            clear ho2 hb2 HO HB
            go_wp2
            go_roundw
            case rel => exact ⟨d + 1, e2, g2, by omega, by go_num, by rw [HLN.out], HR2.out, HT2.out⟩
            case measure => simp [intOf]; omega
          · have HS : Hid (parTo links k (d + 1) = parTo links k d) := by
              refine Lib.hid ?_
              rw [parTo_succ]
              unfold parAt
              rw [if_neg (by rw [hg, hy]; omega)]
              simp
            have HO := Lib.hid ho; have HB := Lib.hid hb
            clear ho hb hx hy hg
            go_wp2
            go_roundw
            case rel => exact ⟨d + 1, e1, g1, by omega, by go_num, by rw [HS.out], by rw [HS.out]; exact HO.out, HB.out⟩
            case measure => simp [intOf]; omega
        · have HE : Hid (parTo links k d = parOf links k) := by
            refine Lib.hid ?_
            by_cases h2 : d < 2
            · exact parTo_end (by rw [HL.out]; omega) hd
            · have : d = 2 := by omega
              subst this
              exact parTo_two
          rw [HE.out] at ho hpl ⊢
          have HO : Hid (Owns wr w.heap.size ([] ++ ⟨28, e0, k, g0, R.map Row.val⟩ :: (R ++ [⟨3, e1, (parOf links k).length, g1, NI (parOf links k)⟩]))) := ho
          have HB := Lib.hid hb
          clear ho hb
          obtain ⟨pl, hplx⟩ : ∃ pl, (parOf links k).length = pl := ⟨_, rfl⟩
          have HPL := Lib.hid hplx
          rw [hplx]
          clear hplx hpl
          by_cases h2 : d < 2
          · have c1 : 2 * (k : Int) + (d : Int) < 2 * (k : Int) + 2 := by omega
            have c2 : ¬ (2 * (k : Int) + (d : Int) < (l : Int)) := by omega
            clear hin
            go_wp2_with (at_builtin; refine app28s [] _ (.tmp 46) (.tmp 48) rfl rfl wr.heap.size rfl rfl rfl HO.out rfl (by omega) (by omega) ?_)
            intro e2 g2 w2 ho2 hb2 hs2
            have HR2 : Hid (Owns w2 w.heap.size (⟨28, e2, k + 1, g2, (R ++ [(⟨3, e1, (parOf links k).length, g1, NI (parOf links k)⟩ : Row)]).map Row.val⟩ :: (R ++ [⟨3, e1, (parOf links k).length, g1, NI (parOf links k)⟩]))) := by
              refine Lib.hid ?_
              rw [List.map_append, HPL.out]
              rw [HPL.out] at ho2
              exact ho2
            have HT2 := Lib.hid (HB.out.trans hb2)
            clear ho2 hb2 HO HB
            go_wp2
            go_roundw
            case rel => exact ⟨k + 1, e2, g2, _, by omega, by go_num, rfl, HI.out.snoc e1 g1, HR2.out, HT2.out⟩
            case measure => simp [intOf]; omega
          · have c1 : ¬ (2 * (k : Int) + (d : Int) < 2 * (k : Int) + 2) := by omega
            clear hin
            go_wp2_with (at_builtin; refine app28s [] _ (.tmp 46) (.tmp 48) rfl rfl wr.heap.size rfl rfl rfl HO.out rfl (by omega) (by omega) ?_)
            intro e2 g2 w2 ho2 hb2 hs2
            have HR2 : Hid (Owns w2 w.heap.size (⟨28, e2, k + 1, g2, (R ++ [(⟨3, e1, (parOf links k).length, g1, NI (parOf links k)⟩ : Row)]).map Row.val⟩ :: (R ++ [⟨3, e1, (parOf links k).length, g1, NI (parOf links k)⟩]))) := by
              refine Lib.hid ?_
              rw [List.map_append, HPL.out]
              rw [HPL.out] at ho2
              exact ho2
            have HT2 := Lib.hid (HB.out.trans hb2)
            clear ho2 hb2 HO HB
            go_wp2
            go_roundw
            case rel => exact ⟨k + 1, e2, g2, _, by omega, by go_num, rfl, HI.out.snoc e1 g1, HR2.out, HT2.out⟩
            case measure => simp [intOf]; omega
    · obtain rfl : k = n := by omega
      have HO := Lib.hid ho; have HB := Lib.hid hb
      clear ho hb
      go_wp2
      go_ret
      exact ⟨e0, g0, R, rfl, HI.out, HO.out, HB.out⟩
end Go.Proofs.Ytjjmjjbeecmmlad
